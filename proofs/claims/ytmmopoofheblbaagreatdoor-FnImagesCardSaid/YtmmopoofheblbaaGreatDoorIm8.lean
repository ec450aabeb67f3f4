/- Some texts of one proof, put into one file: Escd, Law3, Law4, Law5, Only0, EmphU. -/
import Derived.Lib.Strings
import Derived.Test.YtmmopoofheblbaaGreatDoorIm3
import Derived.Test.YtmmopoofheblbaaGreatDoorIm4
import Derived.Test.YtmmopoofheblbaaGreatDoorIm7
/- A text of dull bytes, of signs behind a backslash, and of line feeds between other bytes: how inline reads it. -/
namespace Go.Proofs.YtmmopoofheblbaaGreatDoor
open Go Go.RowKit Go.Proofs

/-- The text is made of dull bytes and of signs behind a backslash. -/
def Escd (s : ByteArray) (k : Nat) : Prop :=
  if h : k < s.size then
    (dull s[k] = true ∧ Escd s (k + 1)) ∨ (s[k] = 92 ∧ (∃ h' : k + 1 < s.size, punct s[k + 1] = true) ∧ Escd s (k + 2))
  else k = s.size
termination_by s.size - k

/-- The pieces of such a text from k on; from e on nothing has been emitted. -/
def scan (s : ByteArray) (k e : Nat) : List Pc :=
  if h : k < s.size then
    (if s[k] = 92 then (if e < k then [.plain (s.extract e k)] else []) ++ .esc (s.extract (k + 1) (k + 2)) :: scan s (k + 2) (k + 2) else scan s (k + 1) e)
  else (if e < k then [.plain (s.extract e k)] else [])
termination_by s.size - k

theorem scan_end {s : ByteArray} {e : Nat} : scan s s.size e = if e < s.size then [Pc.plain (s.extract e s.size)] else [] := by
  rw [scan, dif_neg (Nat.lt_irrefl _)]

theorem esc_call (s : ByteArray) (k : Nat) (hk : k + 1 < s.size) (hs : s.size ≤ 1000000) (hp : punct s[k + 1] = true) : PieceCall s k 101 (.esc (s.extract (k + 1) (k + 2))) k (k + 2) := by
  intro bp q W hq
  refine (parseEscape_punct _ s k W hk hs hp).mono ?_
  rintro e w' ⟨b, h1, h2, h3, h4⟩
  exact ⟨b, q.corner, h1, h2.mono (fun _ _ h => h.elim), hq.same h2, h3, h4⟩

theorem plan_of_escd (s : ByteArray) (hs : s.size ≤ 1000000) : ∀ (n k e : Nat), s.size - k = n → e ≤ k → k ≤ s.size → Escd s k → Plan s k e (scan s k e) := by
  intro n
  induction n using Nat.strongRecOn with
  | ind n ih =>
    intro k e hn he hk hg
    by_cases hlt : k < s.size
    · rw [Escd, dif_pos hlt] at hg
      rcases hg with ⟨hd, hg⟩ | ⟨h92, ⟨hk1, hp⟩, hg⟩
      · have h92 : s[k] ≠ 92 := by intro h; rw [h] at hd; revert hd; decide
        rw [scan, dif_pos hlt, if_neg h92]
        exact Plan.dull hlt hd (ih _ (by omega) (k + 1) e rfl (by omega) hlt hg)
      · rw [scan, dif_pos hlt, if_pos h92]
        exact Plan.piece hlt _ (Or.inl ⟨h92, rfl⟩) _ k (k + 2) he (Nat.le_refl _) (by omega) (by omega) (esc_call s k hk1 hs hp) (fun _ h => by cases h) (ih _ (by omega) (k + 2) (k + 2) rfl (Nat.le_refl _) (by omega) hg)
    · have hks : k = s.size := by omega
      subst hks
      rw [scan_end]
      exact Plan.fin e
theorem plan_escd (s : ByteArray) (hs : s.size ≤ 1000000) (hg : Escd s 0) : Plan s 0 0 (scan s 0 0) := plan_of_escd s hs _ 0 0 rfl (Nat.le_refl _) (Nat.zero_le _) hg
end Go.Proofs.YtmmopoofheblbaaGreatDoor

/- The plain law of FnEscaped: what the escaped text is, seen by the parser. -/
namespace Go.Proofs.YtmmopoofheblbaaGreatDoor
open Go Go.RowKit Go.Proofs

/-- A byte with a backslash ahead, if it is a sign. -/
def slB (c : UInt8) : List UInt8 := if punct c then [92, c] else [c]
/-- A text with a backslash ahead of each sign. -/
def slL (l : List UInt8) : List UInt8 := l.flatMap slB
def slT (t : ByteArray) : ByteArray := ⟨(slL t.data.toList).toArray⟩

def Pr (c : UInt8) : Prop := 32 ≤ c.toNat ∧ c.toNat ≤ 126

theorem slL_len : ∀ l : List UInt8, l.length ≤ (slL l).length ∧ (slL l).length ≤ 2 * l.length
  | [] => by simp [slL]
  | c :: l => by
    have h := slL_len l
    have e : slL (c :: l) = slB c ++ slL l := by simp [slL]
    rw [e]
    unfold slB
    split <;> simp <;> omega

theorem slT_size (t : ByteArray) : t.size ≤ (slT t).size ∧ (slT t).size ≤ 2 * t.size := by
  have h := slL_len t.data.toList
  have e1 : t.data.toList.length = t.size := rfl
  have e2 : (slT t).size = (slL t.data.toList).length := by show (slL t.data.toList).toArray.size = _; simp
  omega

theorem pr_of_prFrom (t : ByteArray) : ∀ (n i : Nat), t.size - i = n → prFrom t i = true → ∀ j (hj : j < t.size), i ≤ j → Pr t[j]
  | 0, i, hn, _, j, hj, hij => by omega
  | n + 1, i, hn, h, j, hj, hij => by
    have hi : i < t.size := by omega
    rw [prFrom, dif_pos hi] at h
    simp only [Bool.and_eq_true, decide_eq_true_eq] at h
    rcases Nat.eq_or_lt_of_le hij with e | e
    · subst e; exact ⟨h.1.1, h.1.2⟩
    · exact pr_of_prFrom t n (i + 1) (by omega) h.2 j hj (by omega)

theorem pr_list {t : ByteArray} (h : prFrom t 0 = true) : ∀ c ∈ t.data.toList, Pr c := by
  intro c hc
  obtain ⟨j, hj, rfl⟩ := List.getElem_of_mem hc
  have hj' : j < t.size := by simpa using hj
  exact pr_of_prFrom t _ 0 rfl h j hj' (Nat.zero_le _)

theorem dull_of {c : UInt8} (hp : Pr c) (h : punct c = false) : dull c = true := by
  unfold dull
  rw [Bool.not_eq_true', ← Bool.not_eq_true]
  intro hc
  rw [List.contains_iff_mem] at hc
  simp only [List.mem_cons, List.not_mem_nil, or_false] at hc
  rcases hc with rfl | rfl | rfl | rfl | rfl | rfl | rfl | rfl | rfl | rfl | rfl | rfl | rfl | rfl | rfl
  all_goals first | exact absurd h (by decide) | exact absurd hp.1 (by decide)

/-- What stands from place k on. -/
def from_ (s : ByteArray) (k : Nat) : List UInt8 := s.data.toList.drop k

theorem from_cons {s : ByteArray} {k : Nat} {c : UInt8} {r : List UInt8} (h : from_ s k = c :: r) : ∃ hk : k < s.size, s[k] = c ∧ from_ s (k + 1) = r := by
  unfold from_ at h
  have hk : k < s.data.toList.length := by
    rcases Nat.lt_or_ge k s.data.toList.length with h1 | h1
    · exact h1
    · rw [List.drop_eq_nil_of_le h1] at h; cases h
  rw [List.drop_eq_getElem_cons hk] at h
  injection h with h1 h2
  exact ⟨by simpa using hk, h1, h2⟩
theorem from_nil {s : ByteArray} {k : Nat} (hk : k ≤ s.size) (h : from_ s k = []) : k = s.size := by
  unfold from_ at h
  have h1 := List.drop_eq_nil_iff.1 h
  have e1 : s.data.toList.length = s.size := rfl
  omega
theorem from_zero (s : ByteArray) : from_ s 0 = s.data.toList := rfl

theorem sl_cons (c : UInt8) (l : List UInt8) : slL (c :: l) = slB c ++ slL l := by simp [slL]
theorem punct_92 : punct 92 = true := by decide

theorem escd_sl (s : ByteArray) : ∀ (l : List UInt8) (k : Nat), k ≤ s.size → (∀ c ∈ l, Pr c) → from_ s k = slL l → Escd s k
  | [], k, hk, _, h => by
    have := from_nil hk h
    rw [Escd, dif_neg (by omega)]
    exact this
  | c :: l, k, hk, hp, h => by
    rw [sl_cons] at h
    unfold slB at h
    by_cases hc : punct c = true
    · rw [if_pos hc] at h
      obtain ⟨h1, e1, h2⟩ := from_cons h
      obtain ⟨h3, e3, h4⟩ := from_cons h2
      rw [Escd, dif_pos h1]
      exact Or.inr ⟨e1, ⟨h3, by rw [e3]; exact hc⟩, escd_sl s l (k + 2) (by omega) (fun x hx => hp x (List.mem_cons_of_mem _ hx)) h4⟩
    · rw [if_neg hc] at h
      obtain ⟨h1, e1, h2⟩ := from_cons h
      rw [Escd, dif_pos h1]
      exact Or.inl ⟨by rw [e1]; exact dull_of (hp c List.mem_cons_self) (by simpa using hc), escd_sl s l (k + 1) (by omega) (fun x hx => hp x (List.mem_cons_of_mem _ hx)) h2⟩

theorem escN_all (s : ByteArray) : escN s s.size = s.data.toList.flatMap escB := by
  show (s.data.toList.take s.data.toList.length).flatMap escB = _
  rw [List.take_length]
theorem out_plain (s : ByteArray) : outPc (.plain s) = s.data.toList.flatMap escB := escN_all s
theorem out_esc (s : ByteArray) : outPc (.esc s) = s.data.toList.flatMap escB := escN_all s

theorem ext_list (s : ByteArray) (i j : Nat) : (s.extract i j).data.toList = (s.data.toList.drop i).take (j - i) := Lib.extract_data s i j
theorem ext_none (s : ByteArray) (i : Nat) : (s.extract i i).data.toList = [] := by rw [ext_list, Nat.sub_self]; rfl
theorem ext_snoc {s : ByteArray} {e k : Nat} (he : e ≤ k) (hk : k < s.size) : (s.extract e (k + 1)).data.toList = (s.extract e k).data.toList ++ [s[k]] := by
  rw [ext_list, ext_list, show k + 1 - e = (k - e) + 1 by omega, List.take_add_one]
  have hg : (s.data.toList.drop e)[k - e]? = some s[k] := by
    rw [List.getElem?_drop, show e + (k - e) = k by omega]
    have h : k < s.data.toList.length := hk
    rw [List.getElem?_eq_getElem h]; rfl
  rw [hg]
  rfl

theorem scan_sl (s : ByteArray) : ∀ (l : List UInt8) (k e : Nat), e ≤ k → k ≤ s.size → (∀ c ∈ l, Pr c) → from_ s k = slL l →
    (scan s k e).flatMap outPc = (s.extract e k).data.toList.flatMap escB ++ l.flatMap escB
  | [], k, e, he, hk, _, h => by
    have hke := from_nil hk h
    subst hke
    rw [scan_end]
    by_cases hlt : e < s.size
    · rw [if_pos hlt]
      simp only [List.flatMap_cons, List.flatMap_nil, out_plain]
    · rw [if_neg hlt]
      have : e = s.size := by omega
      rw [this, ext_none]
      rfl
  | c :: l, k, e, he, hk, hp, h => by
    rw [sl_cons] at h
    unfold slB at h
    by_cases hc : punct c = true
    · rw [if_pos hc] at h
      obtain ⟨h1, e1, h2⟩ := from_cons h
      obtain ⟨h3, e3, h4⟩ := from_cons h2
      rw [scan, dif_pos h1, if_pos e1, List.flatMap_append, List.flatMap_cons, scan_sl s l (k + 2) (k + 2) (Nat.le_refl _) (by omega) (fun x hx => hp x (List.mem_cons_of_mem _ hx)) h4]
      have hx : (s.extract (k + 1) (k + 2)).data.toList = [c] := by rw [ext1 s (k + 1) h3, e3]
      rw [ext_none, out_esc, hx]
      by_cases hlt : e < k
      · rw [if_pos hlt]
        simp only [List.flatMap_cons, List.flatMap_nil, out_plain, List.append_nil, List.nil_append]
      · rw [if_neg hlt]
        have : e = k := by omega
        rw [this, ext_none]
        simp only [List.flatMap_cons, List.flatMap_nil, List.append_nil, List.nil_append]
    · rw [if_neg hc] at h
      obtain ⟨h1, e1, h2⟩ := from_cons h
      have h92 : s[k] ≠ 92 := by
        rw [e1]; intro h; rw [h] at hc; exact hc punct_92
      rw [scan, dif_pos h1, if_neg h92, scan_sl s l (k + 1) e (by omega) (by omega) (fun x hx => hp x (List.mem_cons_of_mem _ hx)) h2]
      rw [ext_snoc he h1, e1]
      simp only [List.flatMap_append, List.flatMap_cons, List.flatMap_nil, List.append_nil, List.append_assoc]
end Go.Proofs.YtmmopoofheblbaaGreatDoor

/- The plain law of FnEscaped: the escaped text is a line as the parser's walk wants it. -/
namespace Go.Proofs.YtmmopoofheblbaaGreatDoor
open Go Go.RowKit Go.Proofs

theorem isW_of {c : UInt8} (h : Pr c) (h32 : c ≠ 32) : isW c = false := by
  unfold isW
  rw [Bool.or_eq_false_iff]
  refine ⟨by simpa using h32, ?_⟩
  rw [beq_eq_false_iff_ne]
  rintro rfl
  exact absurd h.1 (by decide)

theorem sl_pr : ∀ l : List UInt8, (∀ c ∈ l, Pr c) → ∀ c ∈ slL l, Pr c
  | [], _, c, h => by simp [slL] at h
  | x :: l, hp, c, h => by
    rw [sl_cons, List.mem_append] at h
    rcases h with h | h
    · have hx := hp x List.mem_cons_self
      unfold slB at h
      split at h
      · simp only [List.mem_cons, List.not_mem_nil, or_false] at h
        rcases h with rfl | rfl
        · exact ⟨by decide, by decide⟩
        · exact hx
      · simp only [List.mem_cons, List.not_mem_nil, or_false] at h
        subst h; exact hx
    · exact sl_pr l (fun y hy => hp y (List.mem_cons_of_mem _ hy)) c h

/-- Ahead of each sign that is no backslash stands a backslash. -/
theorem sl_ahead : ∀ (l : List UInt8) (j : Nat) (c : UInt8), (slL l)[j]? = some c → punct c = true → c ≠ 92 → ∃ i, j = i + 1 ∧ (slL l)[i]? = some 92
  | [], j, c, h, _, _ => by simp [slL] at h
  | x :: l, j, c, h, hc, h92 => by
    rw [sl_cons] at h ⊢
    unfold slB at h ⊢
    by_cases hx : punct x = true
    · rw [if_pos hx] at h ⊢
      match j, h with
      | 0, h => simp at h; exact absurd h.symm h92
      | 1, _ => exact ⟨0, rfl, by simp⟩
      | j + 2, h =>
        simp at h
        obtain ⟨i, rfl, hi⟩ := sl_ahead l j c h hc h92
        exact ⟨i + 2, rfl, by simpa using hi⟩
    · rw [if_neg hx] at h ⊢
      match j, h with
      | 0, h => simp at h; subst h; exact absurd hc hx
      | j + 1, h =>
        simp at h
        obtain ⟨i, rfl, hi⟩ := sl_ahead l j c h hc h92
        exact ⟨i + 1, rfl, by simpa using hi⟩

theorem slT_list (t : ByteArray) : (slT t).data.toList = slL t.data.toList := by simp [slT]

theorem get_of {s : ByteArray} {i : Nat} (hi : i < s.size) : s.data.toList[i]? = some s[i] := by
  have h : i < s.data.toList.length := hi
  rw [List.getElem?_eq_getElem h]; rfl

theorem at0_get {s : ByteArray} {i : Nat} {c : UInt8} (h : at0 s i = c) (h0 : c ≠ 0) : s.data.toList[i]? = some c := by
  unfold at0 at h
  split at h
  · rename_i hi; rw [get_of hi, h]
  · exact absurd h.symm h0

theorem fill_first {t : ByteArray} (h : fillOk t = true) : ∃ h0 : 0 < t.size, t[0] ≠ 32 ∧ t[t.size - 1]'(by omega) ≠ 32 := by
  unfold fillOk at h
  split at h
  · rename_i h0
    simp only [Bool.and_eq_true, Bool.not_eq_true', beq_eq_false_iff_ne] at h
    refine ⟨h0, fun e => h.1 (by rw [e]; rfl), fun e => h.2 (by rw [e]; rfl)⟩
  · cases h

theorem isDig_punct {c : UInt8} (h : isDig c) : punct c = false := by
  unfold isDig at h
  unfold punct
  simp
  omega

theorem isDig_92 : ¬ isDig 92 := by unfold isDig; decide

/-- Such a line begins a paragraph. -/
theorem plain_of {s : ByteArray} (h0 : 0 < s.size) (h32 : s[0] ≠ 32) (hf : s[0] = 92 ∨ punct s[0] = false)
    (ha : ∀ (j : Nat) (c : UInt8), s.data.toList[j]? = some c → punct c = true → c ≠ 92 → ∃ i, j = i + 1 ∧ s.data.toList[i]? = some 92) : Plain s 0 := by
  have hl : p3 s 0 = 0 := by
    unfold p3 lead
    rw [dif_pos h0, if_neg h32]
  have ha0 : at0 s (p3 s 0) = s[0] := by rw [hl]; exact at0_eq h0
  have hk : ∀ k : Nat, (punct (UInt8.ofNat k) = true) → UInt8.ofNat k ≠ 92 → k < 256 → ((s[0].toNat : Int) ≠ k) := by
    intro k hp hne hlt e
    have : s[0] = UInt8.ofNat k := UInt8.toNat_inj.1 (by rw [UInt8.toNat_ofNat']; omega)
    rcases hf with h | h
    · exact hne (this ▸ h)
    · rw [this, hp] at h; cases h
  constructor
  · rw [ha0]; exact hk 62 (by decide) (by decide) (by decide)
  · rw [ha0]; exact hk 35 (by decide) (by decide) (by decide)
  · rw [ha0]; exact hk 45 (by decide) (by decide) (by decide)
  · rw [ha0]; exact hk 95 (by decide) (by decide) (by decide)
  · rw [ha0]; exact hk 42 (by decide) (by decide) (by decide)
  · rw [ha0]; exact hk 60 (by decide) (by decide) (by decide)
  · rw [ha0]; exact hk 96 (by decide) (by decide) (by decide)
  · rw [ha0]; exact hk 126 (by decide) (by decide) (by decide)
  · rw [ha0]; exact h32
  · unfold ItemNo
    rw [ha0]
    by_cases hd : isDig s[0]
    · refine Or.inr ⟨hd, ?_⟩
      rw [hl]
      intro t ht
      have key : ∀ k : UInt8, punct k = true → k ≠ 92 → k ≠ 0 → (at0 s (0 + t)).toNat ≠ k.toNat := by
        intro k hp hne hz e
        have hg := at0_get (UInt8.toNat_inj.1 e) hz
        obtain ⟨i, hi, hg2⟩ := ha _ _ hg hp hne
        have hdig := ht i (by omega)
        have : at0 s (0 + i) = 92 := by
          have hi2 : i < s.size := by
            have := (List.getElem?_eq_some_iff.1 hg2).1
            simpa using this
          rw [Nat.zero_add, at0_eq hi2]
          have := get_of hi2
          rw [hg2] at this
          exact (Option.some.inj this).symm
        rw [this] at hdig
        exact isDig_92 hdig
      exact ⟨key 46 (by decide) (by decide) (by decide), key 41 (by decide) (by decide) (by decide)⟩
    · left
      intro k hkm
      simp only [List.mem_cons, List.not_mem_nil, or_false] at hkm
      have hd' : ¬ (48 ≤ (s[0].toNat : Int) ∧ (s[0].toNat : Int) ≤ 57) := hd
      rcases hkm with rfl | rfl | rfl | rfl | rfl | rfl | rfl | rfl | rfl | rfl | rfl | rfl | rfl
      · exact hk 45 (by decide) (by decide) (by decide)
      · exact hk 42 (by decide) (by decide) (by decide)
      · exact hk 43 (by decide) (by decide) (by decide)
      all_goals omega

theorem oneLine_sl (t : ByteArray) (hp : prFrom t 0 = true) (hf : fillOk t = true) (hs : t.size ≤ 400000) : OneLine (slT t) := by
  obtain ⟨h0, hf1, hf2⟩ := fill_first hf
  have hpl := pr_list hp
  have hps := sl_pr _ hpl
  have hsz := slT_size t
  have hpos : 0 < (slT t).size := by omega
  have hall : ∀ i (hi : i < (slT t).size), Pr (slT t)[i] := by
    intro i hi
    have := get_of hi
    rw [slT_list] at this
    exact hps _ (List.mem_of_getElem? this)
  obtain ⟨c, l, hcl⟩ : ∃ c l, t.data.toList = c :: l := by
    cases h : t.data.toList with
    | nil => have e1 : t.data.toList.length = t.size := rfl
             rw [h] at e1; simp at e1; omega
    | cons c l => exact ⟨c, l, rfl⟩
  have hc0 : t[0] = c := by have := get_of h0; rw [hcl] at this; exact (Option.some.inj this).symm
  have hfirst : (punct c = true ∧ (slT t)[0] = 92) ∨ (punct c = false ∧ (slT t)[0] = c) := by
    have hg := get_of hpos
    rw [slT_list, hcl, sl_cons] at hg
    unfold slB at hg
    by_cases hc : punct c = true
    · rw [if_pos hc] at hg
      exact Or.inl ⟨hc, (Option.some.inj hg).symm⟩
    · rw [if_neg hc] at hg
      exact Or.inr ⟨by simpa using hc, (Option.some.inj hg).symm⟩
  have h32 : (slT t)[0] ≠ 32 := by
    rcases hfirst with ⟨_, h⟩ | ⟨_, h⟩
    · rw [h]; decide
    · rw [h, ← hc0]; exact hf1
  have hlast : (slT t)[(slT t).size - 1]'(by omega) ≠ 32 := by
    have hne : t.data.toList ≠ [] := by rw [hcl]; simp
    obtain ⟨m, d, hmd⟩ : ∃ m d, t.data.toList = m ++ [d] := ⟨_, _, (List.dropLast_concat_getLast hne).symm⟩
    have hd : t[t.size - 1]'(by omega) = d := by
      have hg := get_of (s := t) (i := t.size - 1) (by omega)
      have e1 : t.data.toList.length = t.size := rfl
      rw [hmd] at hg e1
      simp at e1
      rw [List.getElem?_append_right (by omega), show t.size - 1 - m.length = 0 by omega] at hg
      exact (Option.some.inj hg).symm
    have hM : ∃ M, (slT t).data.toList = M ++ [d] := by
      rw [slT_list, hmd]
      have : slL (m ++ [d]) = slL m ++ slB d := by simp [slL]
      rw [this]
      unfold slB
      split
      · exact ⟨slL m ++ [92], by simp⟩
      · exact ⟨slL m, rfl⟩
    obtain ⟨M, hM⟩ := hM
    have hg := get_of (s := slT t) (i := (slT t).size - 1) (by omega)
    have e1 : (slT t).data.toList.length = (slT t).size := rfl
    rw [hM] at hg e1
    simp at e1
    rw [List.getElem?_append_right (by omega), show (slT t).size - 1 - M.length = 0 by omega] at hg
    have := (Option.some.inj hg).symm
    rw [this, ← hd]
    exact hf2
  have hn : ∀ k : UInt8, k.toNat < 32 → ∀ i (hi : i < (slT t).size), (slT t)[i] ≠ k := by
    intro k hk i hi e
    have := (hall i hi).1
    rw [e] at this
    omega
  refine ⟨hpos, by omega, isW_of (hall 0 hpos) h32, isW_of (hall _ _) hlast, hn 0 (by decide), hn 10 (by decide), hn 13 (by decide), ?_, hn 9 (by decide), ?_⟩
  · rcases hfirst with ⟨_, h⟩ | ⟨hc, h⟩
    · rw [h]; decide
    · rw [h]; rintro rfl; revert hc; decide
  · refine Or.inl (plain_of hpos h32 ?_ ?_)
    · rcases hfirst with ⟨_, h⟩ | ⟨hc, h⟩
      · exact Or.inl h
      · right; rw [h]; exact hc
    · intro j d hj hd hne
      rw [slT_list] at hj ⊢
      exact sl_ahead _ j d hj hd hne

theorem escd_slT (t : ByteArray) (hp : prFrom t 0 = true) : Escd (slT t) 0 := escd_sl _ _ 0 (Nat.zero_le _) (pr_list hp) (by rw [from_zero, slT_list])

theorem plan_sizes {s : ByteArray} {k e : Nat} (hs : s.size ≤ 1000000) (h : Escd s k) : ∀ u, (Pc.plain u ∈ scan s k e ∨ Pc.esc u ∈ scan s k e ∨ Pc.tag u ∈ scan s k e) → u.size ≤ s.size := by
  have hx : ∀ i j, (s.extract i j).size ≤ s.size := by intro i j; rw [ByteArray.size_extract]; omega
  have key : ∀ (n k e : Nat), s.size - k = n → ∀ p : Pc, p ∈ scan s k e → (∃ i j, p = .plain (s.extract i j) ∨ p = .esc (s.extract i j)) := by
    intro n
    induction n using Nat.strongRecOn with
    | ind n ih =>
      intro k e hn p hp
      rw [scan] at hp
      split at hp
      · split at hp
        · rw [List.mem_append] at hp
          rcases hp with hp | hp
          · split at hp
            · simp at hp; exact ⟨_, _, Or.inl hp⟩
            · cases hp
          · rw [List.mem_cons] at hp
            rcases hp with hp | hp
            · exact ⟨_, _, Or.inr hp⟩
            · exact ih _ (by omega) (k + 2) (k + 2) rfl p hp
        · exact ih _ (by omega) (k + 1) e rfl p hp
      · split at hp
        · simp at hp; exact ⟨_, _, Or.inl hp⟩
        · simp at hp
  intro u hu
  rcases hu with hu | hu | hu
  · obtain ⟨i, j, h | h⟩ := key _ k e rfl _ hu
    · injection h with h; subst h; exact hx _ _
    · cases h
  · obtain ⟨i, j, h | h⟩ := key _ k e rfl _ hu
    · cases h
    · injection h with h; subst h; exact hx _ _
  · obtain ⟨i, j, h | h⟩ := key _ k e rfl _ hu <;> cases h

theorem scan_no_auto (s : ByteArray) : ∀ (n k e : Nat), s.size - k = n → ∀ t u, Pc.auto t u ∉ scan s k e := by
  intro n
  induction n using Nat.strongRecOn with
  | ind n ih =>
    intro k e hn t u hp
    rw [scan] at hp
    split at hp
    · split at hp
      · rw [List.mem_append] at hp
        rcases hp with hp | hp
        · split at hp
          · simp at hp
          · cases hp
        · rw [List.mem_cons] at hp
          rcases hp with hp | hp
          · cases hp
          · exact ih _ (by omega) (k + 2) (k + 2) rfl t u hp
      · exact ih _ (by omega) (k + 1) e rfl t u hp
    · split at hp
      · simp at hp
      · simp at hp

theorem escB_len (l : List UInt8) : (l.flatMap escB).length ≤ 6 * l.length := by
  induction l with
  | nil => simp
  | cons c l ih =>
    have : (escB c).length ≤ 6 := by unfold escB; split; decide; split; decide; split; decide; split; decide; simp
    rw [List.flatMap_cons, List.length_append, List.length_cons]
    omega

/-- The HTML of a text as EscapeHTML writes it. -/
def htmlT (t : ByteArray) : ByteArray := ⟨(t.data.toList.flatMap escB).toArray⟩
/-- A text within the marks of a paragraph. -/
def paraT (t : ByteArray) : ByteArray := ⟨(pOpen ++ t.data.toList ++ pClose).toArray⟩

theorem escaped_html (t : ByteArray) (w : World) (hp : prFrom t 0 = true) (hf : fillOk t = true) (hs : t.size ≤ 100000) :
    Calls Tryz.prog 16 #[.agg #[.bool false, .bool false, .bool false, .bool false, .bool false, .bool false, .bool false, .bool false, .bool false, .bool false], .string (slT t)] w fun e w' => e = .returned (.string (paraT (htmlT t))) ∧ Same w w' := by
  have hsc : (scan (slT t) 0 0).flatMap outPc = t.data.toList.flatMap escB := by
    rw [scan_sl (slT t) t.data.toList 0 0 (Nat.le_refl _) (Nat.zero_le _) (pr_list hp) (by rw [from_zero, slT_list])]
    simp
  have hlen := escB_len t.data.toList
  have e1 : t.data.toList.length = t.size := rfl
  have hsz := slT_size t
  refine (impl_HTML (slT t) w (oneLine_sl t hp hf (by omega)) (scan (slT t) 0 0) (plan_escd _ (by omega) (escd_slT t hp)) ?_ ?_ (scan_no_auto _ _ 0 0 rfl)).mono ?_
  · intro i
    have h1 : ((scan (slT t) 0 0).take i).flatMap outPc ++ ((scan (slT t) 0 0).drop i).flatMap outPc = t.data.toList.flatMap escB := by
      rw [← hsc, ← List.flatMap_append, List.take_append_drop]
    have h2 := congrArg List.length h1
    rw [List.length_append] at h2
    have h3 : pOpen.length = 3 := rfl
    simp only [List.nil_append, List.length_append]
    omega
  · intro u hu
    have := plan_sizes (by omega) (escd_slT t hp) u hu
    omega
  · rintro e w' ⟨rfl, hm⟩
    refine ⟨?_, hm⟩
    rw [hsc]
    simp [paraT, htmlT]
end Go.Proofs.YtmmopoofheblbaaGreatDoor

/- The laws' own functions: EscapeHTML. -/
namespace Go.Proofs.YtmmopoofheblbaaGreatDoor
open Go Go.RowKit Go.Proofs

theorem bs_app (a b : List UInt8) : ((⟨a.toArray⟩ : ByteArray) ++ (⟨b.toArray⟩ : ByteArray)) = ⟨(a ++ b).toArray⟩ := by
  apply ByteArray.ext
  simp

def strL (l : List UInt8) : ByteArray := ⟨l.toArray⟩
theorem strL_app (a b : List UInt8) : strL a ++ strL b = strL (a ++ b) := bs_app a b
theorem strL_size (a : List UInt8) : (strL a).size = a.length := by show a.toArray.size = _; simp
theorem strL_all (s : ByteArray) : strL s.data.toList = s := by apply ByteArray.ext; simp [strL]
theorem strL_ext (s : ByteArray) (j : Nat) (h : j < s.size) : s.extract j (j + 1) = strL [s[j]] := by rw [ext1 s j h]; rfl

theorem bne_byte {c : UInt8} {k : Nat} (h : c ≠ UInt8.ofNat k) (hk : k < 256) : ((c.toNat : Int) == (k : Int)) = false := by
  apply beq_eq_false_iff_ne.2
  intro e
  apply h
  apply UInt8.toNat_inj.1
  rw [UInt8.toNat_ofNat']
  omega

end Go.Proofs.YtmmopoofheblbaaGreatDoor

/- only: a law's own function over an alphabet. -/
namespace Go.Proofs.YtmmopoofheblbaaGreatDoor
open Go Go.RowKit Go.Proofs

theorem ixB (s : ByteArray) (c : UInt8) (w : World) : Calls Tryz.prog 48 #[.string s, .int .u8 c.toNat] w fun e w' => e = .returned (.int .i64 (Lib.indexByte s.data.toList c)) ∧ w = w' := by
  refine (Tryz.strings_IndexByte s c.toNat w).mono ?_
  rintro e w' ⟨rfl, rfl⟩
  refine ⟨?_, rfl⟩
  rw [Int.toNat_natCast]
  congr 4
  simp

/-- Every byte from i on is one of the alphabet's. -/
def onF (s A : ByteArray) (i : Nat) : Bool := if h : i < s.size then (!decide (Lib.indexByte A.data.toList s[i] < 0) && onF s A (i + 1)) else true
termination_by s.size - i

theorem onF_get (s A : ByteArray) : ∀ (n i : Nat), s.size - i = n → onF s A i = true → ∀ j (hj : j < s.size), i ≤ j → ¬ Lib.indexByte A.data.toList s[j] < 0
  | 0, i, hn, _, j, hj, hij => by omega
  | n + 1, i, hn, hp, j, hj, hij => by
    have hi : i < s.size := by omega
    rw [onF, dif_pos hi, Bool.and_eq_true] at hp
    by_cases he : i = j
    · subst he
      simpa using hp.1
    · exact onF_get s A n (i + 1) (by omega) hp.2 j hj (by omega)

set_option maxHeartbeats 4000000 in
theorem only_any (s A : ByteArray) (n : Nat) (w : World) (hs : s.size ≤ n) (hn : n ≤ 100000) :
    Calls Tryz.prog 19 #[.string s, .string A, .int .i64 n] w fun e w' => e = .returned (.bool (onF s A 0)) ∧ w = w' := by
  have w0 : ¬ ((n : Int) < s.size) := by omega
  go_enter Tryz.func19, Tryz.ntmps19
  go_wp2_with fail
  go_loopg [7, 14] s.size (fun k u v wr => ∃ i : Nat, (i = 0 → u = undef) ∧ v = .int .i64 i ∧ k = s.size - i ∧ i ≤ s.size ∧ onF s A i = onF s A 0 ∧ w = wr)
  case atStart => exact ⟨0, fun _ => rfl, rfl, rfl, Nat.zero_le _, rfl, rfl⟩
  case round =>
    obtain ⟨i, _, rfl, rfl, hi, hp, rfl⟩ := hrel
    have HP := Lib.hid hp
    clear hp
    by_cases hlt : i < s.size
    · have w1 : (i : Int) < s.size := by omega
      have w2 : (0 : Int) ≤ i := by omega
      have w3 : IntKind.i64.wrap ((i : Int) + 1) = (i : Int) + 1 := IntWalk.i64_in _ (by omega)
      have hun : onF s A i = (!decide (Lib.indexByte A.data.toList s[i] < 0) && onF s A (i + 1)) := by rw [onF, dif_pos hlt]
      have HU := Lib.hid hun
      clear hun
      go_wp2_with fail
      refine (ixB A s[i] w).mono ?_
      rintro e w' ⟨rfl, rfl⟩
      by_cases hc : Lib.indexByte A.data.toList s[i] < 0
      · have hf : onF s A 0 = false := by rw [← HP.out, HU.out]; simp [hc]
        have HF := Lib.hid hf
        clear hf
        go_wp2_with fail
        go_ret
        exact ⟨by rw [HF.out]; rfl, rfl⟩
      · have Hc := Lib.hid hc
        go_wp2_with fail
        go_roundg (s.size - (i + 1))
        case measure => omega
        case rel => exact ⟨i + 1, fun h => absurd h (by omega), by simp, rfl, by omega, by rw [← HP.out, HU.out]; simp [Hc.out], rfl⟩
    · have hin : i = s.size := by omega
      have w1 : ¬ ((i : Int) < s.size) := by omega
      have ht : onF s A 0 = true := by rw [← HP.out, hin, onF, dif_neg (Nat.lt_irrefl _)]
      have HT := Lib.hid ht
      clear ht
      go_wp2_with fail
      go_ret
      exact ⟨by rw [HT.out]; rfl, rfl⟩

set_option maxHeartbeats 4000000 in
theorem only_big (s A : ByteArray) (n : Nat) (w : World) (hs : n < s.size) (_hs2 : s.size ≤ 2147483647) :
    Calls Tryz.prog 19 #[.string s, .string A, .int .i64 n] w fun e w' => e = .returned (.bool false) ∧ w = w' := by
  have w0 : (n : Int) < s.size := by omega
  go_enter Tryz.func19, Tryz.ntmps19
  go_wp2_with fail
  go_ret
  exact ⟨rfl, rfl⟩
end Go.Proofs.YtmmopoofheblbaaGreatDoor

/- Appends within the capacity; the closures of emph. -/
namespace Go.Proofs.YtmmopoofheblbaaGreatDoor
open Go Go.RowKit Go.Proofs

/-- An append within the capacity writes one place. -/
theorem run_room {P : Program} {w : World} (t ty e : Nat) (ht : P.underlying t = some (.slice e)) (hi : (P.info? e).map (fun i => i.size) = some 1)
    (g i n cap : Nat) (xs : List Value) (hown : w.ownsRow 0 e 1 (.slice (some ⟨g, 0, none⟩) n cap) n xs) (hin : i < n) (u : Value) (h1 : u.oneCell' = true) (b c : Nat) (hb : w.cell? ⟨b, 0, none⟩ = some u) :
    ∃ w', (Builtin.append_ #[t, t] ty #[.slice (some ⟨g, 0, none⟩) i cap, .slice (some ⟨b, 0, none⟩) 1 c]).run P w = .ok (.slice (some ⟨g, 0, none⟩) (i + 1) cap) w' ∧ Mods (fun k => k = g) w w' ∧ w'.ownsRow 0 e 1 (.slice (some ⟨g, 0, none⟩) n cap) n (xs.set i u) := by
  obtain ⟨i0, hi0, hsz⟩ := Option.map_eq_some_iff.1 hi
  rcases hown.2 with ⟨h, _⟩ | ⟨g', cap', cur, hv, h00, hg, hc, hm, hs, htake⟩
  · cases h
  · cases hv
    have hlen := hown.1
    simp only [Nat.mul_one] at hs htake hlen
    have hr := run_append_room (P := P) w t ty e i0 ht hi0 g i cap cur hg ⟨b, 0, none⟩ 1 c [u] (by rw [hsz]; rfl)
      (fun j y hy => by cases j with
        | zero => simp at hy; subst hy; simpa [Addr.add_lit] using hb
        | succ j => simp at hy) (fun y hy => by simp at hy; subst hy; exact h1) (by omega) (by rw [hsz]; simp; omega)
    have hcs : (cur.toList.take (i * i0.size) ++ [u] ++ cur.toList.drop (i * i0.size + [u].length)) = cur.toList.set i u := by
      rw [hsz, Nat.mul_one]
      have hle : i < cur.toList.length := by simp; omega
      rw [List.set_eq_take_append_cons_drop, if_pos hle]
      simp
    rw [hcs] at hr
    refine ⟨_, hr, ⟨rfl, rfl, rfl, by simp, fun k _ hk => setRow_other w g k _ hk⟩, by simpa using hlen, .inr ⟨g, cap, (cur.toList.set i u).toArray, rfl, h00, setRow_heap w g cur _ e _ hg, hc, hm, ?_, ?_⟩⟩
    · simp only [Nat.mul_one]
      simp
      exact hs
    · simp only [Nat.mul_one]
      rw [← htake]
      simp [List.take_set]

section
variable {w : World} {ops : Array Oper} {rest : List Oper} {o : Oper} {a : Act} {Q : Exit → Act → World → Prop}

theorem wp_room_inl {K : Act → World → Prop} (s x : Operand) (ho : o.op = .call { callee := .builtin .append, args := #[s, x], argTypes := #[84, 84] })
    (g i n cap : Nat) (xs : List Value) (hown : w.ownsRow 0 157 1 (.slice (some ⟨g, 0, none⟩) n cap) n xs) (hin : i < n) (u : Value) (h1 : u.oneCell' = true) (b c : Nat)
    (hs : a.eval s = .slice (some ⟨g, 0, none⟩) i cap) (hx : a.eval x = .slice (some ⟨b, 0, none⟩) 1 c) (hb : w.cell? ⟨b, 0, none⟩ = some u)
    (h : ∀ w', Mods (fun k => k = g) w w' → w'.ownsRow 0 157 1 (.slice (some ⟨g, 0, none⟩) n cap) n (xs.set i u) → K (a.put o.dst (.slice (some ⟨g, 0, none⟩) (i + 1) cap)) w') : o.wp Tryz.prog a w K Q := by
  obtain ⟨w', hr, hm, hr2⟩ := run_room (P := Tryz.prog) 84 o.type 157 Tryz.underlying84 (by kernel_rfl) g i n cap xs hown hin u h1 b c hb
  unfold Oper.wp execOp
  simp only [ho, resolve, invoke, builtin, Sem.run_bind, Sem.run_pure, Result.andThen_ok, List.map_toArray, List.map_cons, List.map_nil, hs, hx, hr]
  exact h w' hm hr2

theorem wl_room_inl (hgd : o.guard = none) (s x : Operand) (ho : o.op = .call { callee := .builtin .append, args := #[s, x], argTypes := #[84, 84] })
    (g i n cap : Nat) (xs : List Value) (hown : w.ownsRow 0 157 1 (.slice (some ⟨g, 0, none⟩) n cap) n xs) (hin : i < n) (u : Value) (h1 : u.oneCell' = true) (b c : Nat)
    (hs : a.eval s = .slice (some ⟨g, 0, none⟩) i cap) (hx : a.eval x = .slice (some ⟨b, 0, none⟩) 1 c) (hb : w.cell? ⟨b, 0, none⟩ = some u)
    (h : ∀ w', Mods (fun k => k = g) w w' → w'.ownsRow 0 157 1 (.slice (some ⟨g, 0, none⟩) n cap) n (xs.set i u) → wpList Tryz.prog ops Q rest (a.put o.dst (.slice (some ⟨g, 0, none⟩) (i + 1) cap)) w') : wpList Tryz.prog ops Q (o :: rest) a w :=
  wpList_plain hgd fun _ hK => wp_room_inl s x ho g i n cap xs hown hin u h1 b c hs hx hb fun w' hm hr => hK _ _ (h w' hm hr)

theorem st_room_inl {K : Act → World → Prop} {E : Prop} (hgd : o.guard = none) (s x : Operand) (ho : o.op = .call { callee := .builtin .append, args := #[s, x], argTypes := #[84, 84] })
    (g i n cap : Nat) (xs : List Value) (hown : w.ownsRow 0 157 1 (.slice (some ⟨g, 0, none⟩) n cap) n xs) (hin : i < n) (u : Value) (h1 : u.oneCell' = true) (b c : Nat)
    (hs : a.eval s = .slice (some ⟨g, 0, none⟩) i cap) (hx : a.eval x = .slice (some ⟨b, 0, none⟩) 1 c) (hb : w.cell? ⟨b, 0, none⟩ = some u)
    (h : ∀ w', Mods (fun k => k = g) w w' → w'.ownsRow 0 157 1 (.slice (some ⟨g, 0, none⟩) n cap) n (xs.set i u) → K (a.put o.dst (.slice (some ⟨g, 0, none⟩) (i + 1) cap)) w') : if Region.wanted o (yielded ops a.tmps) = true then Oper.wp Tryz.prog o a w K Q else E := by
  have hw : Region.wanted o (yielded ops a.tmps) = true := by simp [Region.wanted, hgd]
  rw [if_pos hw]
  exact wp_room_inl s x ho g i n cap xs hown hin u h1 b c hs hx hb h

/-- append onto a stack of marks. -/
theorem ap_mark (hgd : o.guard = none) (s x : Operand) (ho : o.op = .call { callee := .builtin .append, args := #[s, x], argTypes := #[280, 280] })
    (v : Value) (n : Nat) (xs : List Value) (hs : a.eval s = v) (hown : w.ownsRow 0 266 1 v n xs)
    (b c : Nat) (u : Option Addr) (hx : a.eval x = .slice (some ⟨b, 0, none⟩) 1 c) (hu : w.cell? ⟨b, 0, none⟩ = some (.pointer u)) (hn : n ≤ 1000000)
    (h : ∀ g cap w', w'.ownsRow 0 266 1 (.slice (some ⟨g, 0, none⟩) (n + 1) cap) (n + 1) (xs ++ [.pointer u]) → w.grownBy w' v.ownBlock → (v.ownBlock = some g ∨ g = w.heap.size) → wpList Tryz.prog ops Q rest (a.put o.dst (.slice (some ⟨g, 0, none⟩) (n + 1) cap)) w') : wpList Tryz.prog ops Q (o :: rest) a w :=
  ap1 hgd s x 280 266 1 8 ho (.pointer none) Tryz.underlying280 (by kernel_rfl) rfl (by decide) (by decide) v n xs hs hown b c [.pointer u] hx rfl
    (fun j y hy => by cases j with
      | zero => simp at hy; subst hy; exact hu
      | succ j => simp at hy) (fun y hy => by simp at hy; subst hy; rfl) hn h
end

/-- The place of a sign among the kinds of marks. -/
theorem stackOf_at (c : UInt8) (k : Nat) (w : World) (h : (c = 126 ∧ k = 2) ∨ (c = 34 ∧ k = 3) ∨ (c = 39 ∧ k = 4)) :
    Calls Tryz.prog 159 #[.int .u8 c.toNat] w fun e w' => e = .returned (.int .i64 k) ∧ w = w' := by
  go_enter Tryz.func159, Tryz.ntmps159
  go_wp2_with fail
  refine (ixB ⟨#[95, 42, 126, 34, 39]⟩ c w).mono ?_
  rintro e w' ⟨rfl, rfl⟩
  go_wp2_with fail
  go_ret
  refine ⟨?_, rfl⟩
  rcases h with ⟨rfl, rfl⟩ | ⟨rfl, rfl⟩ | ⟨rfl, rfl⟩ <;> rfl
end Go.Proofs.YtmmopoofheblbaaGreatDoor
