/- The plain law of FnEscaped: the escaped text is a line as the parser's walk wants it. -/
import Derived.Test.YtdnlfdppjfjncaaGreatDoorLaw3
namespace Go.Proofs.YtdnlfdppjfjncaaGreatDoor
open Go Go.RowKit Go.Proofs

theorem isW_of {c : UInt8} (h : Pr c) (h32 : c ≠ 32) : isW c = false := by
  unfold isW
  rw [Bool.or_eq_false_iff]
  refine ⟨by simpa using h32, ?_⟩
  rw [beq_eq_false_iff_ne]
  rintro rfl
  exact absurd h.1 (by decide)

theorem sl_pr : ∀ l : List UInt8, (∀ c ∈ l, Pr c) → ∀ c ∈ slL l, Pr c
  | [], _, c, h => by simp [slL] at h
  | x :: l, hp, c, h => by
    rw [sl_cons, List.mem_append] at h
    rcases h with h | h
    · have hx := hp x List.mem_cons_self
      unfold slB at h
      split at h
      · simp only [List.mem_cons, List.not_mem_nil, or_false] at h
        rcases h with rfl | rfl
        · exact ⟨by decide, by decide⟩
        · exact hx
      · simp only [List.mem_cons, List.not_mem_nil, or_false] at h
        subst h; exact hx
    · exact sl_pr l (fun y hy => hp y (List.mem_cons_of_mem _ hy)) c h

/-- Ahead of each sign that is no backslash stands a backslash. -/
theorem sl_ahead : ∀ (l : List UInt8) (j : Nat) (c : UInt8), (slL l)[j]? = some c → punct c = true → c ≠ 92 → ∃ i, j = i + 1 ∧ (slL l)[i]? = some 92
  | [], j, c, h, _, _ => by simp [slL] at h
  | x :: l, j, c, h, hc, h92 => by
    rw [sl_cons] at h ⊢
    unfold slB at h ⊢
    by_cases hx : punct x = true
    · rw [if_pos hx] at h ⊢
      match j, h with
      | 0, h => simp at h; exact absurd h.symm h92
      | 1, _ => exact ⟨0, rfl, by simp⟩
      | j + 2, h =>
        simp at h
        obtain ⟨i, rfl, hi⟩ := sl_ahead l j c h hc h92
        exact ⟨i + 2, rfl, by simpa using hi⟩
    · rw [if_neg hx] at h ⊢
      match j, h with
      | 0, h => simp at h; subst h; exact absurd hc hx
      | j + 1, h =>
        simp at h
        obtain ⟨i, rfl, hi⟩ := sl_ahead l j c h hc h92
        exact ⟨i + 1, rfl, by simpa using hi⟩

theorem slT_list (t : ByteArray) : (slT t).data.toList = slL t.data.toList := by simp [slT]

theorem get_of {s : ByteArray} {i : Nat} (hi : i < s.size) : s.data.toList[i]? = some s[i] := by
  have h : i < s.data.toList.length := hi
  rw [List.getElem?_eq_getElem h]; rfl

theorem at0_get {s : ByteArray} {i : Nat} {c : UInt8} (h : at0 s i = c) (h0 : c ≠ 0) : s.data.toList[i]? = some c := by
  unfold at0 at h
  split at h
  · rename_i hi; rw [get_of hi, h]
  · exact absurd h.symm h0

theorem fill_first {t : ByteArray} (h : fillOk t = true) : ∃ h0 : 0 < t.size, t[0] ≠ 32 ∧ t[t.size - 1]'(by omega) ≠ 32 := by
  unfold fillOk at h
  split at h
  · rename_i h0
    simp only [Bool.and_eq_true, Bool.not_eq_true', beq_eq_false_iff_ne] at h
    refine ⟨h0, fun e => h.1 (by rw [e]; rfl), fun e => h.2 (by rw [e]; rfl)⟩
  · cases h

theorem isDig_punct {c : UInt8} (h : isDig c) : punct c = false := by
  unfold isDig at h
  unfold punct
  simp
  omega

theorem isDig_92 : ¬ isDig 92 := by unfold isDig; decide

/-- Such a line begins a paragraph. -/
theorem plain_of {s : ByteArray} (h0 : 0 < s.size) (h32 : s[0] ≠ 32) (hf : s[0] = 92 ∨ punct s[0] = false)
    (ha : ∀ (j : Nat) (c : UInt8), s.data.toList[j]? = some c → punct c = true → c ≠ 92 → ∃ i, j = i + 1 ∧ s.data.toList[i]? = some 92) : Plain s 0 := by
  have hl : p3 s 0 = 0 := by
    unfold p3 lead
    rw [dif_pos h0, if_neg h32]
  have ha0 : at0 s (p3 s 0) = s[0] := by rw [hl]; exact at0_eq h0
  have hk : ∀ k : Nat, (punct (UInt8.ofNat k) = true) → UInt8.ofNat k ≠ 92 → k < 256 → ((s[0].toNat : Int) ≠ k) := by
    intro k hp hne hlt e
    have : s[0] = UInt8.ofNat k := UInt8.toNat_inj.1 (by rw [UInt8.toNat_ofNat']; omega)
    rcases hf with h | h
    · exact hne (this ▸ h)
    · rw [this, hp] at h; cases h
  constructor
  · rw [ha0]; exact hk 62 (by decide) (by decide) (by decide)
  · rw [ha0]; exact hk 35 (by decide) (by decide) (by decide)
  · rw [ha0]; exact hk 45 (by decide) (by decide) (by decide)
  · rw [ha0]; exact hk 95 (by decide) (by decide) (by decide)
  · rw [ha0]; exact hk 42 (by decide) (by decide) (by decide)
  · rw [ha0]; exact hk 60 (by decide) (by decide) (by decide)
  · rw [ha0]; exact hk 96 (by decide) (by decide) (by decide)
  · rw [ha0]; exact hk 126 (by decide) (by decide) (by decide)
  · rw [ha0]; exact h32
  · unfold ItemNo
    rw [ha0]
    by_cases hd : isDig s[0]
    · refine Or.inr ⟨hd, ?_⟩
      rw [hl]
      intro t ht
      have key : ∀ k : UInt8, punct k = true → k ≠ 92 → k ≠ 0 → (at0 s (0 + t)).toNat ≠ k.toNat := by
        intro k hp hne hz e
        have hg := at0_get (UInt8.toNat_inj.1 e) hz
        obtain ⟨i, hi, hg2⟩ := ha _ _ hg hp hne
        have hdig := ht i (by omega)
        have : at0 s (0 + i) = 92 := by
          have hi2 : i < s.size := by
            have := (List.getElem?_eq_some_iff.1 hg2).1
            simpa using this
          rw [Nat.zero_add, at0_eq hi2]
          have := get_of hi2
          rw [hg2] at this
          exact (Option.some.inj this).symm
        rw [this] at hdig
        exact isDig_92 hdig
      exact ⟨key 46 (by decide) (by decide) (by decide), key 41 (by decide) (by decide) (by decide)⟩
    · left
      intro k hkm
      simp only [List.mem_cons, List.not_mem_nil, or_false] at hkm
      have hd' : ¬ (48 ≤ (s[0].toNat : Int) ∧ (s[0].toNat : Int) ≤ 57) := hd
      rcases hkm with rfl | rfl | rfl | rfl | rfl | rfl | rfl | rfl | rfl | rfl | rfl | rfl | rfl
      · exact hk 45 (by decide) (by decide) (by decide)
      · exact hk 42 (by decide) (by decide) (by decide)
      · exact hk 43 (by decide) (by decide) (by decide)
      all_goals omega

theorem oneLine_sl (t : ByteArray) (hp : prFrom t 0 = true) (hf : fillOk t = true) (hs : t.size ≤ 400000) : OneLine (slT t) := by
  obtain ⟨h0, hf1, hf2⟩ := fill_first hf
  have hpl := pr_list hp
  have hps := sl_pr _ hpl
  have hsz := slT_size t
  have hpos : 0 < (slT t).size := by omega
  have hall : ∀ i (hi : i < (slT t).size), Pr (slT t)[i] := by
    intro i hi
    have := get_of hi
    rw [slT_list] at this
    exact hps _ (List.mem_of_getElem? this)
  obtain ⟨c, l, hcl⟩ : ∃ c l, t.data.toList = c :: l := by
    cases h : t.data.toList with
    | nil => have e1 : t.data.toList.length = t.size := rfl
             rw [h] at e1; simp at e1; omega
    | cons c l => exact ⟨c, l, rfl⟩
  have hc0 : t[0] = c := by have := get_of h0; rw [hcl] at this; exact (Option.some.inj this).symm
  have hfirst : (punct c = true ∧ (slT t)[0] = 92) ∨ (punct c = false ∧ (slT t)[0] = c) := by
    have hg := get_of hpos
    rw [slT_list, hcl, sl_cons] at hg
    unfold slB at hg
    by_cases hc : punct c = true
    · rw [if_pos hc] at hg
      exact Or.inl ⟨hc, (Option.some.inj hg).symm⟩
    · rw [if_neg hc] at hg
      exact Or.inr ⟨by simpa using hc, (Option.some.inj hg).symm⟩
  have h32 : (slT t)[0] ≠ 32 := by
    rcases hfirst with ⟨_, h⟩ | ⟨_, h⟩
    · rw [h]; decide
    · rw [h, ← hc0]; exact hf1
  have hlast : (slT t)[(slT t).size - 1]'(by omega) ≠ 32 := by
    have hne : t.data.toList ≠ [] := by rw [hcl]; simp
    obtain ⟨m, d, hmd⟩ : ∃ m d, t.data.toList = m ++ [d] := ⟨_, _, (List.dropLast_concat_getLast hne).symm⟩
    have hd : t[t.size - 1]'(by omega) = d := by
      have hg := get_of (s := t) (i := t.size - 1) (by omega)
      have e1 : t.data.toList.length = t.size := rfl
      rw [hmd] at hg e1
      simp at e1
      rw [List.getElem?_append_right (by omega), show t.size - 1 - m.length = 0 by omega] at hg
      exact (Option.some.inj hg).symm
    have hM : ∃ M, (slT t).data.toList = M ++ [d] := by
      rw [slT_list, hmd]
      have : slL (m ++ [d]) = slL m ++ slB d := by simp [slL]
      rw [this]
      unfold slB
      split
      · exact ⟨slL m ++ [92], by simp⟩
      · exact ⟨slL m, rfl⟩
    obtain ⟨M, hM⟩ := hM
    have hg := get_of (s := slT t) (i := (slT t).size - 1) (by omega)
    have e1 : (slT t).data.toList.length = (slT t).size := rfl
    rw [hM] at hg e1
    simp at e1
    rw [List.getElem?_append_right (by omega), show (slT t).size - 1 - M.length = 0 by omega] at hg
    have := (Option.some.inj hg).symm
    rw [this, ← hd]
    exact hf2
  have hn : ∀ k : UInt8, k.toNat < 32 → ∀ i (hi : i < (slT t).size), (slT t)[i] ≠ k := by
    intro k hk i hi e
    have := (hall i hi).1
    rw [e] at this
    omega
  refine ⟨hpos, by omega, isW_of (hall 0 hpos) h32, isW_of (hall _ _) hlast, hn 0 (by decide), hn 10 (by decide), hn 13 (by decide), ?_, hn 9 (by decide), ?_, ?_⟩
  · rcases hfirst with ⟨_, h⟩ | ⟨hc, h⟩
    · rw [h]; decide
    · rw [h]; rintro rfl; revert hc; decide
  · refine Or.inl (plain_of hpos h32 ?_ ?_)
    · rcases hfirst with ⟨_, h⟩ | ⟨hc, h⟩
      · exact Or.inl h
      · right; rw [h]; exact hc
    · intro j d hj hd hne
      rw [slT_list] at hj ⊢
      exact sl_ahead _ j d hj hd hne
  · exact escd_sl _ _ 0 (Nat.zero_le _) hpl (by rw [from_zero, slT_list])

theorem scan_sizes (s : ByteArray) : ∀ (n k e : Nat), s.size - k = n → ∀ u, Pc.plain u ∈ scan s k e ∨ Pc.esc u ∈ scan s k e → u.size ≤ s.size := by
  intro n
  induction n using Nat.strongRecOn with
  | ind n ih =>
    intro k e hn u hu
    have hx : ∀ i j, (s.extract i j).size ≤ s.size := by intro i j; rw [ByteArray.size_extract]; omega
    rw [scan] at hu
    split at hu
    · rename_i hk
      split at hu
      · have key : ∀ p : Pc, p ∈ (if e < k then [Pc.plain (s.extract e k)] else []) ++ Pc.esc (s.extract (k + 1) (k + 2)) :: scan s (k + 2) (k + 2) → (p = .plain (s.extract e k) ∨ p = .esc (s.extract (k + 1) (k + 2)) ∨ p ∈ scan s (k + 2) (k + 2)) := by
          intro p hp
          rw [List.mem_append] at hp
          rcases hp with hp | hp
          · split at hp
            · simp at hp; exact Or.inl hp
            · cases hp
          · rw [List.mem_cons] at hp
            exact Or.inr hp
        rcases hu with hu | hu
        · rcases key _ hu with h | h | h
          · injection h with h; subst h; exact hx _ _
          · cases h
          · exact ih _ (by omega) (k + 2) (k + 2) rfl u (Or.inl h)
        · rcases key _ hu with h | h | h
          · cases h
          · injection h with h; subst h; exact hx _ _
          · exact ih _ (by omega) (k + 2) (k + 2) rfl u (Or.inr h)
      · exact ih _ (by omega) (k + 1) e rfl u hu
    · split at hu
      · rcases hu with hu | hu
        · simp at hu; subst hu; exact hx _ _
        · simp at hu
      · simp at hu

theorem escB_len (l : List UInt8) : (l.flatMap escB).length ≤ 6 * l.length := by
  induction l with
  | nil => simp
  | cons c l ih =>
    have : (escB c).length ≤ 6 := by unfold escB; split; decide; split; decide; split; decide; split; decide; simp
    rw [List.flatMap_cons, List.length_append, List.length_cons]
    omega

/-- The HTML of a text as EscapeHTML writes it. -/
def htmlT (t : ByteArray) : ByteArray := ⟨(t.data.toList.flatMap escB).toArray⟩
/-- A text within the marks of a paragraph. -/
def paraT (t : ByteArray) : ByteArray := ⟨(pOpen ++ t.data.toList ++ pClose).toArray⟩

theorem escaped_html (t : ByteArray) (w : World) (hp : prFrom t 0 = true) (hf : fillOk t = true) (hs : t.size ≤ 100000) :
    Calls Tryz.prog 17 #[.agg #[.bool false, .bool false, .bool false, .bool false, .bool false, .bool false, .bool false, .bool false, .bool false, .bool false], .string (slT t)] w fun e w' => e = .returned (.string (paraT (htmlT t))) ∧ Same w w' := by
  have hsc : (scan (slT t) 0 0).flatMap outPc = t.data.toList.flatMap escB := by
    rw [scan_sl (slT t) t.data.toList 0 0 (Nat.le_refl _) (Nat.zero_le _) (pr_list hp) (by rw [from_zero, slT_list])]
    simp
  have hlen := escB_len t.data.toList
  have e1 : t.data.toList.length = t.size := rfl
  have hsz := slT_size t
  refine (impl_HTML (slT t) w (oneLine_sl t hp hf (by omega)) ?_ ?_).mono ?_
  · intro i
    have h1 : ((scan (slT t) 0 0).take i).flatMap outPc ++ ((scan (slT t) 0 0).drop i).flatMap outPc = t.data.toList.flatMap escB := by
      rw [← hsc, ← List.flatMap_append, List.take_append_drop]
    have h2 := congrArg List.length h1
    rw [List.length_append] at h2
    have h3 : pOpen.length = 3 := rfl
    simp only [List.nil_append, List.length_append]
    omega
  · intro u hu
    have := scan_sizes (slT t) _ 0 0 rfl u hu
    omega
  · rintro e w' ⟨rfl, hm⟩
    refine ⟨?_, hm⟩
    rw [hsc]
    simp [paraT, htmlT]
end Go.Proofs.YtdnlfdppjfjncaaGreatDoor
