/- Some texts of one proof, put into one file: Law4, Law5, Law6, Unesc, Cont4, Lines. -/
import Derived.Shelf.Strings.Builder1
import Derived.Laws.StructEq
import Derived.Deep.RegionWith
import Derived.Deep.DeepCutAuto
import Derived.Lib.Join
import Derived.Test.YtdnlfdppjfjncaaGreatDoorAu4
import Derived.Test.YtdnlfdppjfjncaaGreatDoorAu6
import Derived.Test.YtdnlfdppjfjncaaGreatDoorAu8
/- The plain law of FnEscaped: the escaped text is a line as the parser's walk wants it. -/
namespace Go.Proofs.YtdnlfdppjfjncaaGreatDoor
open Go Go.RowKit Go.Proofs

theorem isW_of {c : UInt8} (h : Pr c) (h32 : c ≠ 32) : isW c = false := by
  unfold isW
  rw [Bool.or_eq_false_iff]
  refine ⟨by simpa using h32, ?_⟩
  rw [beq_eq_false_iff_ne]
  rintro rfl
  exact absurd h.1 (by decide)

theorem sl_pr : ∀ l : List UInt8, (∀ c ∈ l, Pr c) → ∀ c ∈ slL l, Pr c
  | [], _, c, h => by simp [slL] at h
  | x :: l, hp, c, h => by
    rw [sl_cons, List.mem_append] at h
    rcases h with h | h
    · have hx := hp x List.mem_cons_self
      unfold slB at h
      split at h
      · simp only [List.mem_cons, List.not_mem_nil, or_false] at h
        rcases h with rfl | rfl
        · exact ⟨by decide, by decide⟩
        · exact hx
      · simp only [List.mem_cons, List.not_mem_nil, or_false] at h
        subst h; exact hx
    · exact sl_pr l (fun y hy => hp y (List.mem_cons_of_mem _ hy)) c h

/-- Ahead of each sign that is no backslash stands a backslash. -/
theorem sl_ahead : ∀ (l : List UInt8) (j : Nat) (c : UInt8), (slL l)[j]? = some c → punct c = true → c ≠ 92 → ∃ i, j = i + 1 ∧ (slL l)[i]? = some 92
  | [], j, c, h, _, _ => by simp [slL] at h
  | x :: l, j, c, h, hc, h92 => by
    rw [sl_cons] at h ⊢
    unfold slB at h ⊢
    by_cases hx : punct x = true
    · rw [if_pos hx] at h ⊢
      match j, h with
      | 0, h => simp at h; exact absurd h.symm h92
      | 1, _ => exact ⟨0, rfl, by simp⟩
      | j + 2, h =>
        simp at h
        obtain ⟨i, rfl, hi⟩ := sl_ahead l j c h hc h92
        exact ⟨i + 2, rfl, by simpa using hi⟩
    · rw [if_neg hx] at h ⊢
      match j, h with
      | 0, h => simp at h; subst h; exact absurd hc hx
      | j + 1, h =>
        simp at h
        obtain ⟨i, rfl, hi⟩ := sl_ahead l j c h hc h92
        exact ⟨i + 1, rfl, by simpa using hi⟩

theorem slT_list (t : ByteArray) : (slT t).data.toList = slL t.data.toList := by simp [slT]

theorem get_of {s : ByteArray} {i : Nat} (hi : i < s.size) : s.data.toList[i]? = some s[i] := by
  have h : i < s.data.toList.length := hi
  rw [List.getElem?_eq_getElem h]; rfl

theorem at0_get {s : ByteArray} {i : Nat} {c : UInt8} (h : at0 s i = c) (h0 : c ≠ 0) : s.data.toList[i]? = some c := by
  unfold at0 at h
  split at h
  · rename_i hi; rw [get_of hi, h]
  · exact absurd h.symm h0

theorem fill_first {t : ByteArray} (h : fillOk t = true) : ∃ h0 : 0 < t.size, t[0] ≠ 32 ∧ t[t.size - 1]'(by omega) ≠ 32 := by
  unfold fillOk at h
  split at h
  · rename_i h0
    simp only [Bool.and_eq_true, Bool.not_eq_true', beq_eq_false_iff_ne] at h
    refine ⟨h0, fun e => h.1 (by rw [e]; rfl), fun e => h.2 (by rw [e]; rfl)⟩
  · cases h

theorem isDig_punct {c : UInt8} (h : isDig c) : punct c = false := by
  unfold isDig at h
  unfold punct
  simp
  omega

theorem isDig_92 : ¬ isDig 92 := by unfold isDig; decide

/-- Such a line begins a paragraph. -/
theorem plain_of {s : ByteArray} (h0 : 0 < s.size) (h32 : s[0] ≠ 32) (hf : s[0] = 92 ∨ punct s[0] = false)
    (ha : ∀ (j : Nat) (c : UInt8), s.data.toList[j]? = some c → punct c = true → c ≠ 92 → ∃ i, j = i + 1 ∧ s.data.toList[i]? = some 92) : Plain s 0 := by
  have hl : p3 s 0 = 0 := by
    unfold p3 lead
    rw [dif_pos h0, if_neg h32]
  have ha0 : at0 s (p3 s 0) = s[0] := by rw [hl]; exact at0_eq h0
  have hk : ∀ k : Nat, (punct (UInt8.ofNat k) = true) → UInt8.ofNat k ≠ 92 → k < 256 → ((s[0].toNat : Int) ≠ k) := by
    intro k hp hne hlt e
    have : s[0] = UInt8.ofNat k := UInt8.toNat_inj.1 (by rw [UInt8.toNat_ofNat']; omega)
    rcases hf with h | h
    · exact hne (this ▸ h)
    · rw [this, hp] at h; cases h
  constructor
  · rw [ha0]; exact hk 62 (by decide) (by decide) (by decide)
  · rw [ha0]; exact hk 35 (by decide) (by decide) (by decide)
  · rw [ha0]; exact hk 45 (by decide) (by decide) (by decide)
  · rw [ha0]; exact hk 95 (by decide) (by decide) (by decide)
  · rw [ha0]; exact hk 42 (by decide) (by decide) (by decide)
  · rw [ha0]; exact hk 60 (by decide) (by decide) (by decide)
  · rw [ha0]; exact hk 96 (by decide) (by decide) (by decide)
  · rw [ha0]; exact hk 126 (by decide) (by decide) (by decide)
  · rw [ha0]; exact h32
  · unfold ItemNo
    rw [ha0]
    by_cases hd : isDig s[0]
    · refine Or.inr ⟨hd, ?_⟩
      rw [hl]
      intro t ht
      have key : ∀ k : UInt8, punct k = true → k ≠ 92 → k ≠ 0 → (at0 s (0 + t)).toNat ≠ k.toNat := by
        intro k hp hne hz e
        have hg := at0_get (UInt8.toNat_inj.1 e) hz
        obtain ⟨i, hi, hg2⟩ := ha _ _ hg hp hne
        have hdig := ht i (by omega)
        have : at0 s (0 + i) = 92 := by
          have hi2 : i < s.size := by
            have := (List.getElem?_eq_some_iff.1 hg2).1
            simpa using this
          rw [Nat.zero_add, at0_eq hi2]
          have := get_of hi2
          rw [hg2] at this
          exact (Option.some.inj this).symm
        rw [this] at hdig
        exact isDig_92 hdig
      exact ⟨key 46 (by decide) (by decide) (by decide), key 41 (by decide) (by decide) (by decide)⟩
    · left
      intro k hkm
      simp only [List.mem_cons, List.not_mem_nil, or_false] at hkm
      have hd' : ¬ (48 ≤ (s[0].toNat : Int) ∧ (s[0].toNat : Int) ≤ 57) := hd
      rcases hkm with rfl | rfl | rfl | rfl | rfl | rfl | rfl | rfl | rfl | rfl | rfl | rfl | rfl
      · exact hk 45 (by decide) (by decide) (by decide)
      · exact hk 42 (by decide) (by decide) (by decide)
      · exact hk 43 (by decide) (by decide) (by decide)
      all_goals omega

theorem oneLine_sl (t : ByteArray) (hp : prFrom t 0 = true) (hf : fillOk t = true) (hs : t.size ≤ 400000) : OneLine (slT t) := by
  obtain ⟨h0, hf1, hf2⟩ := fill_first hf
  have hpl := pr_list hp
  have hps := sl_pr _ hpl
  have hsz := slT_size t
  have hpos : 0 < (slT t).size := by omega
  have hall : ∀ i (hi : i < (slT t).size), Pr (slT t)[i] := by
    intro i hi
    have := get_of hi
    rw [slT_list] at this
    exact hps _ (List.mem_of_getElem? this)
  obtain ⟨c, l, hcl⟩ : ∃ c l, t.data.toList = c :: l := by
    cases h : t.data.toList with
    | nil => have e1 : t.data.toList.length = t.size := rfl
             rw [h] at e1; simp at e1; omega
    | cons c l => exact ⟨c, l, rfl⟩
  have hc0 : t[0] = c := by have := get_of h0; rw [hcl] at this; exact (Option.some.inj this).symm
  have hfirst : (punct c = true ∧ (slT t)[0] = 92) ∨ (punct c = false ∧ (slT t)[0] = c) := by
    have hg := get_of hpos
    rw [slT_list, hcl, sl_cons] at hg
    unfold slB at hg
    by_cases hc : punct c = true
    · rw [if_pos hc] at hg
      exact Or.inl ⟨hc, (Option.some.inj hg).symm⟩
    · rw [if_neg hc] at hg
      exact Or.inr ⟨by simpa using hc, (Option.some.inj hg).symm⟩
  have h32 : (slT t)[0] ≠ 32 := by
    rcases hfirst with ⟨_, h⟩ | ⟨_, h⟩
    · rw [h]; decide
    · rw [h, ← hc0]; exact hf1
  have hlast : (slT t)[(slT t).size - 1]'(by omega) ≠ 32 := by
    have hne : t.data.toList ≠ [] := by rw [hcl]; simp
    obtain ⟨m, d, hmd⟩ : ∃ m d, t.data.toList = m ++ [d] := ⟨_, _, (List.dropLast_concat_getLast hne).symm⟩
    have hd : t[t.size - 1]'(by omega) = d := by
      have hg := get_of (s := t) (i := t.size - 1) (by omega)
      have e1 : t.data.toList.length = t.size := rfl
      rw [hmd] at hg e1
      simp at e1
      rw [List.getElem?_append_right (by omega), show t.size - 1 - m.length = 0 by omega] at hg
      exact (Option.some.inj hg).symm
    have hM : ∃ M, (slT t).data.toList = M ++ [d] := by
      rw [slT_list, hmd]
      have : slL (m ++ [d]) = slL m ++ slB d := by simp [slL]
      rw [this]
      unfold slB
      split
      · exact ⟨slL m ++ [92], by simp⟩
      · exact ⟨slL m, rfl⟩
    obtain ⟨M, hM⟩ := hM
    have hg := get_of (s := slT t) (i := (slT t).size - 1) (by omega)
    have e1 : (slT t).data.toList.length = (slT t).size := rfl
    rw [hM] at hg e1
    simp at e1
    rw [List.getElem?_append_right (by omega), show (slT t).size - 1 - M.length = 0 by omega] at hg
    have := (Option.some.inj hg).symm
    rw [this, ← hd]
    exact hf2
  have hn : ∀ k : UInt8, k.toNat < 32 → ∀ i (hi : i < (slT t).size), (slT t)[i] ≠ k := by
    intro k hk i hi e
    have := (hall i hi).1
    rw [e] at this
    omega
  refine ⟨hpos, by omega, isW_of (hall 0 hpos) h32, isW_of (hall _ _) hlast, hn 0 (by decide), hn 10 (by decide), hn 13 (by decide), ?_, hn 9 (by decide), ?_⟩
  · rcases hfirst with ⟨_, h⟩ | ⟨hc, h⟩
    · rw [h]; decide
    · rw [h]; rintro rfl; revert hc; decide
  · refine Or.inl (plain_of hpos h32 ?_ ?_)
    · rcases hfirst with ⟨_, h⟩ | ⟨hc, h⟩
      · exact Or.inl h
      · right; rw [h]; exact hc
    · intro j d hj hd hne
      rw [slT_list] at hj ⊢
      exact sl_ahead _ j d hj hd hne

theorem escd_slT (t : ByteArray) (hp : prFrom t 0 = true) : Escd (slT t) 0 := escd_sl _ _ 0 (Nat.zero_le _) (pr_list hp) (by rw [from_zero, slT_list])

theorem plan_sizes {s : ByteArray} {k e : Nat} (hs : s.size ≤ 1000000) (h : Escd s k) : ∀ u, (Pc.plain u ∈ scan s k e ∨ Pc.esc u ∈ scan s k e ∨ Pc.tag u ∈ scan s k e) → u.size ≤ s.size := by
  have hx : ∀ i j, (s.extract i j).size ≤ s.size := by intro i j; rw [ByteArray.size_extract]; omega
  have key : ∀ (n k e : Nat), s.size - k = n → ∀ p : Pc, p ∈ scan s k e → (∃ i j, p = .plain (s.extract i j) ∨ p = .esc (s.extract i j)) := by
    intro n
    induction n using Nat.strongRecOn with
    | ind n ih =>
      intro k e hn p hp
      rw [scan] at hp
      split at hp
      · split at hp
        · rw [List.mem_append] at hp
          rcases hp with hp | hp
          · split at hp
            · simp at hp; exact ⟨_, _, Or.inl hp⟩
            · cases hp
          · rw [List.mem_cons] at hp
            rcases hp with hp | hp
            · exact ⟨_, _, Or.inr hp⟩
            · exact ih _ (by omega) (k + 2) (k + 2) rfl p hp
        · exact ih _ (by omega) (k + 1) e rfl p hp
      · split at hp
        · simp at hp; exact ⟨_, _, Or.inl hp⟩
        · simp at hp
  intro u hu
  rcases hu with hu | hu | hu
  · obtain ⟨i, j, h | h⟩ := key _ k e rfl _ hu
    · injection h with h; subst h; exact hx _ _
    · cases h
  · obtain ⟨i, j, h | h⟩ := key _ k e rfl _ hu
    · cases h
    · injection h with h; subst h; exact hx _ _
  · obtain ⟨i, j, h | h⟩ := key _ k e rfl _ hu <;> cases h

theorem scan_no_auto (s : ByteArray) : ∀ (n k e : Nat), s.size - k = n → ∀ t u, Pc.auto t u ∉ scan s k e := by
  intro n
  induction n using Nat.strongRecOn with
  | ind n ih =>
    intro k e hn t u hp
    rw [scan] at hp
    split at hp
    · split at hp
      · rw [List.mem_append] at hp
        rcases hp with hp | hp
        · split at hp
          · simp at hp
          · cases hp
        · rw [List.mem_cons] at hp
          rcases hp with hp | hp
          · cases hp
          · exact ih _ (by omega) (k + 2) (k + 2) rfl t u hp
      · exact ih _ (by omega) (k + 1) e rfl t u hp
    · split at hp
      · simp at hp
      · simp at hp

theorem escB_len (l : List UInt8) : (l.flatMap escB).length ≤ 6 * l.length := by
  induction l with
  | nil => simp
  | cons c l ih =>
    have : (escB c).length ≤ 6 := by unfold escB; split; decide; split; decide; split; decide; split; decide; simp
    rw [List.flatMap_cons, List.length_append, List.length_cons]
    omega

/-- The HTML of a text as EscapeHTML writes it. -/
def htmlT (t : ByteArray) : ByteArray := ⟨(t.data.toList.flatMap escB).toArray⟩
/-- A text within the marks of a paragraph. -/
def paraT (t : ByteArray) : ByteArray := ⟨(pOpen ++ t.data.toList ++ pClose).toArray⟩

theorem escaped_html (t : ByteArray) (w : World) (hp : prFrom t 0 = true) (hf : fillOk t = true) (hs : t.size ≤ 100000) :
    Calls Tryz.prog 17 #[.agg #[.bool false, .bool false, .bool false, .bool false, .bool false, .bool false, .bool false, .bool false, .bool false, .bool false], .string (slT t)] w fun e w' => e = .returned (.string (paraT (htmlT t))) ∧ Same w w' := by
  have hsc : (scan (slT t) 0 0).flatMap outPc = t.data.toList.flatMap escB := by
    rw [scan_sl (slT t) t.data.toList 0 0 (Nat.le_refl _) (Nat.zero_le _) (pr_list hp) (by rw [from_zero, slT_list])]
    simp
  have hlen := escB_len t.data.toList
  have e1 : t.data.toList.length = t.size := rfl
  have hsz := slT_size t
  refine (impl_HTML (slT t) w (oneLine_sl t hp hf (by omega)) (scan (slT t) 0 0) (plan_escd _ (by omega) (escd_slT t hp)) ?_ ?_ (scan_no_auto _ _ 0 0 rfl)).mono ?_
  · intro i
    have h1 : ((scan (slT t) 0 0).take i).flatMap outPc ++ ((scan (slT t) 0 0).drop i).flatMap outPc = t.data.toList.flatMap escB := by
      rw [← hsc, ← List.flatMap_append, List.take_append_drop]
    have h2 := congrArg List.length h1
    rw [List.length_append] at h2
    have h3 : pOpen.length = 3 := rfl
    simp only [List.nil_append, List.length_append]
    omega
  · intro u hu
    have := plan_sizes (by omega) (escd_slT t hp) u hu
    omega
  · rintro e w' ⟨rfl, hm⟩
    refine ⟨?_, hm⟩
    rw [hsc]
    simp [paraT, htmlT]
end Go.Proofs.YtdnlfdppjfjncaaGreatDoor

/- The laws' own functions: EscapeHTML. -/
namespace Go.Proofs.YtdnlfdppjfjncaaGreatDoor
open Go Go.RowKit Go.Proofs

theorem bs_app (a b : List UInt8) : ((⟨a.toArray⟩ : ByteArray) ++ (⟨b.toArray⟩ : ByteArray)) = ⟨(a ++ b).toArray⟩ := by
  apply ByteArray.ext
  simp

def strL (l : List UInt8) : ByteArray := ⟨l.toArray⟩
theorem strL_app (a b : List UInt8) : strL a ++ strL b = strL (a ++ b) := bs_app a b
theorem strL_size (a : List UInt8) : (strL a).size = a.length := by show a.toArray.size = _; simp
theorem strL_all (s : ByteArray) : strL s.data.toList = s := by apply ByteArray.ext; simp [strL]
theorem strL_ext (s : ByteArray) (j : Nat) (h : j < s.size) : s.extract j (j + 1) = strL [s[j]] := by rw [ext1 s j h]; rfl

theorem bne_byte {c : UInt8} {k : Nat} (h : c ≠ UInt8.ofNat k) (hk : k < 256) : ((c.toNat : Int) == (k : Int)) = false := by
  apply beq_eq_false_iff_ne.2
  intro e
  apply h
  apply UInt8.toNat_inj.1
  rw [UInt8.toNat_ofNat']
  omega

set_option maxHeartbeats 4000000 in
theorem EscapeHTML_any (s : ByteArray) (w : World) (hs : s.size ≤ 1000000) :
    Calls Tryz.prog 19 #[.string s] w fun e w' => e = .returned (.string (strL (s.data.toList.flatMap escB))) ∧ w = w' := by
  go_enter Tryz.func19, Tryz.ntmps19
  go_wp2_with fail
  go_loopg [3, 4] s.size (fun k o i wr => ∃ j : Nat, o = .string (strL (escN s j)) ∧ i = .int .i64 j ∧ k = s.size - j ∧ j ≤ s.size ∧ w = wr)
  case atStart => exact ⟨0, rfl, rfl, rfl, Nat.zero_le _, rfl⟩
  case round =>
    obtain ⟨j, rfl, rfl, rfl, hj, rfl⟩ := hrel
    have hlen := escN_len s j hj
    have hsz := strL_size (escN s j)
    by_cases hlt : j < s.size
    · have w1 : (j : Int) < s.size := by omega
      have w2 : (0 : Int) ≤ j := by omega
      have w3 : IntKind.i64.wrap ((j : Int) + 1) = (j : Int) + 1 := IntWalk.i64_in _ (by omega)
      have hsucc := escN_succ s j hlt
      have HS := Lib.hid hsucc
      have HX := Lib.hid (strL_ext s j hlt)
      clear hsucc
      by_cases h38 : s[j] = 38
      · have d : ((s[j].toNat : Int) == 38) = true := by rw [h38]; rfl
        have HE : Hid (escB s[j] = [38, 97, 109, 112, 59]) := by rw [h38]; rfl
        clear h38
        go_wp2_with fail
        go_roundg (s.size - (j + 1))
        case measure => omega
        case rel => exact ⟨j + 1, by rw [HS.out, HE.out, ← strL_app]; rfl, rfl, rfl, by omega, rfl⟩
      · have d1 : ((s[j].toNat : Int) == 38) = false := bne_byte (k := 38) h38 (by omega)
        by_cases h60 : s[j] = 60
        · have d : ((s[j].toNat : Int) == 60) = true := by rw [h60]; rfl
          have HE : Hid (escB s[j] = [38, 108, 116, 59]) := by rw [h60]; rfl
          clear h60 h38
          go_wp2_with fail
          go_roundg (s.size - (j + 1))
          case measure => omega
          case rel => exact ⟨j + 1, by rw [HS.out, HE.out, ← strL_app]; rfl, rfl, rfl, by omega, rfl⟩
        · have d2 : ((s[j].toNat : Int) == 60) = false := bne_byte (k := 60) h60 (by omega)
          by_cases h62 : s[j] = 62
          · have d : ((s[j].toNat : Int) == 62) = true := by rw [h62]; rfl
            have HE : Hid (escB s[j] = [38, 103, 116, 59]) := by rw [h62]; rfl
            clear h60 h38 h62
            go_wp2_with fail
            go_roundg (s.size - (j + 1))
            case measure => omega
            case rel => exact ⟨j + 1, by rw [HS.out, HE.out, ← strL_app]; rfl, rfl, rfl, by omega, rfl⟩
          · have d3 : ((s[j].toNat : Int) == 62) = false := bne_byte (k := 62) h62 (by omega)
            by_cases h34 : s[j] = 34
            · have d : ((s[j].toNat : Int) == 34) = true := by rw [h34]; rfl
              have HE : Hid (escB s[j] = [38, 113, 117, 111, 116, 59]) := by rw [h34]; rfl
              clear h60 h38 h62 h34
              go_wp2_with fail
              go_roundg (s.size - (j + 1))
              case measure => omega
              case rel => exact ⟨j + 1, by rw [HS.out, HE.out, ← strL_app]; rfl, rfl, rfl, by omega, rfl⟩
            · have d4 : ((s[j].toNat : Int) == 34) = false := bne_byte (k := 34) h34 (by omega)
              have HE : Hid (escB s[j] = [s[j]]) := by show escB _ = _; unfold escB; rw [if_neg h34, if_neg h38, if_neg h60, if_neg h62]
              clear h60 h38 h62 h34
              go_wp2_with fail
              go_roundg (s.size - (j + 1))
              case measure => omega
              case rel => exact ⟨j + 1, by rw [HS.out, HE.out, ← strL_app, ← HX.out], rfl, rfl, by omega, rfl⟩
    · have w1 : ¬ ((j : Int) < s.size) := by omega
      have hjs : j = s.size := by omega
      subst hjs
      have hall := escN_all s
      have HA := Lib.hid hall
      clear hall
      go_wp2_with fail
      go_ret
      exact ⟨congrArg (fun t => Ending.returned (Value.string (strL t))) HA.out, rfl⟩
end Go.Proofs.YtdnlfdppjfjncaaGreatDoor

/- The laws' own functions: escaped (over strings.Builder). -/
namespace Go.Proofs.YtdnlfdppjfjncaaGreatDoor
open Go Go.RowKit Go.Proofs

set_option maxHeartbeats 1000000 in
set_option maxRecDepth 100000 in
theorem copyCheck_used (b : Nat) (w : World) (h0 : w.cell? ⟨b, 0, none⟩ = some (.pointer (some ⟨b, 0, none⟩))) :
    Calls Tryz.prog 54 #[.pointer (some ⟨b, 0, none⟩)] w fun e w' => e = .returned (.tuple #[]) ∧ w = w' := by
  have hj0 : (Tryz.prog.info? 55).isSome = true := by kernel_rfl
  obtain ⟨j, hj⟩ := Option.isSome_iff_exists.1 hj0
  have hq := fun wx : World => Lib.run_neq_ptr_same (P := Tryz.prog) wx ⟨b, 0, none⟩ Tryz.underlying53 hj
  go_enter Tryz.func54, Tryz.ntmps54
  go_wp2
  go_end0
  exact ⟨rfl, rfl⟩

set_option maxHeartbeats 1000000 in
set_option maxRecDepth 100000 in
theorem copyCheck_fresh (b : Nat) (w : World) (h0 : w.cell? ⟨b, 0, none⟩ = some (.pointer none)) (hsh : w.shape? b = some (55, 2)) (hfz : w.frozen? ⟨b, 0, none⟩ = false) :
    Calls Tryz.prog 54 #[.pointer (some ⟨b, 0, none⟩)] w fun e w' => e = .returned (.tuple #[]) ∧ w' = w.setCell ⟨b, 0, none⟩ (.pointer (some ⟨b, 0, none⟩)) := by
  have hj0 : (Tryz.prog.info? 55).map (fun i => i.size) = some 2 := by kernel_rfl
  obtain ⟨j, hj, hjs⟩ := Option.map_eq_some_iff.1 hj0
  have hlies : liesAt Tryz.prog Tryz.prog.depth 55 (2 / Tryz.prog.cellsOf 55) 0 55 1 = true := by kernel_rfl
  go_enter Tryz.func54, Tryz.ntmps54
  go_wp2
  rw [Lib.run_to_unsafe w ⟨b, 0, none⟩ Tryz.underlying53 Tryz.underlying113 hj (by rw [hjs]; decide) hsh (Nat.zero_lt_succ 1)]
  simp only [Result.andThen]
  rw [Oper.upon_value]
  go_wp2
  rw [run_callFunc_extern Tryz.func68 (by kernel_rfl) (by kernel_rfl) (by kernel_rfl) (e := Extern.AbiNoEscape.same) (by kernel_rfl)]
  rw [Lib.run_noEscape]
  simp only [Result.andThen]
  rw [Oper.upon_value]
  go_wp2
  rw [Lib.run_from_unsafe w ⟨b, 0, none⟩ Tryz.underlying113 Tryz.underlying53 hj hsh hlies]
  simp only [Result.andThen]
  rw [Oper.upon_value]
  go_wp2
  go_end0
  exact ⟨rfl, rfl⟩

theorem copyCheck_any (B b : Nat) (bs : List Value) (w : World) (h : Lib.IsBuilder 55 5 B b bs w) :
    Calls Tryz.prog 54 #[.pointer (some ⟨b, 0, none⟩)] w fun e w' => e = .returned (.tuple #[]) ∧ Lib.BuilderAt 55 5 B b (.pointer (some ⟨b, 0, none⟩)) bs w' ∧ Below B w w' := by
  rcases h with h | h
  · refine (copyCheck_fresh b w h.cell0 h.shape h.frozen0).mono ?_
    rintro e w' ⟨rfl, rfl⟩
    exact ⟨rfl, h.used _, (Below.refl B w).setCell (p := ⟨b, 0, none⟩) h.1 _⟩
  · refine (copyCheck_used b w h.cell0).mono ?_
    rintro e w' ⟨rfl, rfl⟩
    exact ⟨rfl, h, Below.refl B _⟩

set_option maxHeartbeats 2000000 in
set_option maxRecDepth 100000 in
theorem builder_byte (B b : Nat) (l : List UInt8) (c : UInt8) (w : World) (h : Lib.IsBuilder 55 5 B b (Lib.byteCells l) w) (hlen : l.length ≤ 100000000) (hBw : B ≤ w.heap.size) :
    Calls Tryz.prog 42 #[.pointer (some ⟨b, 0, none⟩), .int .u8 c.toNat] w fun e w' => e = .returned .nilIface ∧ Lib.IsBuilder 55 5 B b (Lib.byteCells (l ++ [c])) w' ∧ Below B w w' := by
  have hi0 : (Tryz.prog.info? 5).map (fun i => (i.zero, i.size, i.bytes)) = some (some (.int .u8 0), 1, 1) := by kernel_rfl
  obtain ⟨i0, hi, hz⟩ := Option.map_eq_some_iff.1 hi0
  simp only [Prod.mk.injEq] at hz
  obtain ⟨hz0, hz1, hz2⟩ := hz
  have hbl : (Lib.byteCells l).length = l.length := by simp [Lib.byteCells]
  have hlen' : (Lib.byteCells l).length ≤ 100000000 := by omega
  have HBS := Lib.hid (Lib.byteCells_append l [c])
  clear hbl hlen
  generalize hbs : Lib.byteCells l = bs at *
  go_enter Tryz.func42, Tryz.ntmps42
  go_wp2_with (go_at_call 54; refine (copyCheck_any B b bs _ h).mono ?_)
  rintro e w1 ⟨rfl, h1, hb1⟩
  obtain ⟨hB, v, hbk, hown, hne⟩ := h1
  have c0 : w1.cell? ⟨b, 0, none⟩ = some (.pointer (some ⟨b, 0, none⟩)) := by rw [Lib.cell_of_heap hbk]; rfl
  have c1 : w1.cell? ⟨b, 1, none⟩ = some v := by rw [Lib.cell_of_heap hbk]; rfl
  go_wp2_with (at_builtin; refine wpList_append_own _ rfl _ _ 35 rfl B 5 i0 (.int .u8 0) 1 1 Tryz.underlying35 hi hz0 hz1 hz2 rfl (by decide) _ _ _ rfl (hown.alloc _) ⟨w1.heap.size, 0, none⟩ 1 1 [.int .u8 c.toNat] rfl rfl ?c1 ?c2 ?c3 ?c4 ?c5 ?_)
  case c1 =>
    intro j u hj
    match j, hj with
    | 0, hj => simp at hj; subst hj; simp [Addr.add]
  case c2 => intro u hu; simp at hu; subst hu; rfl
  case c3 => unfold maxLen; omega
  case c4 => omega
  case c5 => have := hb1.size; simp; omega
  intro v' w2 hown' hgrow _
  have hlt : b < w1.heap.size := by
    rcases Nat.lt_or_ge b w1.heap.size with h' | h'
    · exact h'
    · simp [Array.getElem?_eq_none h'] at hbk
  have hb2 : w2.heap[b]? = some (.cells #[.pointer (some ⟨b, 0, none⟩), v] 55 (0, 0)) := by
    rw [hgrow.block b (by simp; omega) (fun e => hne e.symm), Lib.alloc_old w1 _ b hlt]
    exact hbk
  have d0 : w2.cell? ⟨b, 0, none⟩ = some (.pointer (some ⟨b, 0, none⟩)) := by rw [Lib.cell_of_heap hb2]; rfl
  have d1 : w2.cell? ⟨b, 1, none⟩ = some v := by rw [Lib.cell_of_heap hb2]; rfl
  have f1 : w2.frozen? ⟨b, 1, none⟩ = false := Lib.frozen_of_heap hb2 1
  obtain ⟨g, cap, rfl⟩ : ∃ g cap, v' = .slice (some ⟨g, 0, none⟩) (bs.length + 1) cap := by
    rcases hown'.2 with ⟨_, h0⟩ | ⟨g, cap, cur, hv, _⟩
    · omega
    · exact ⟨g, cap, hv⟩
  go_wp2
  go_ret
  refine ⟨rfl, ?_, ?_⟩
  · rw [HBS.out]
    exact Or.inr (Lib.BuilderAt.put (T := 55) (e := 5) hB hb2 (bs' := bs ++ [.int .u8 c.toNat]) (by simpa using hown') (by decide))
  · exact ((hb1.alloc (by have := hb1.size; omega) _).grown hgrow (by have := hb1.size; simp; omega) (fun k hk => (hown.lt k hk).1)).setCell (p := ⟨b, 1, none⟩) hB _

theorem slL_take (s : ByteArray) (j : Nat) (h : j < s.size) : slL (s.data.toList.take (j + 1)) = slL (s.data.toList.take j) ++ slB s[j] := by
  rw [List.take_add_one, get_of h]
  simp [slL]

set_option maxHeartbeats 4000000 in
theorem escaped_any (s : ByteArray) (w : World) (hs : s.size ≤ 1000000) :
    Calls Tryz.prog 21 #[.string s] w fun e w' => e = .returned (.string (slT s)) ∧ Same w w' := by
  go_enter Tryz.func21, Tryz.ntmps21
  go_wp2_with fail
  generalize hW : (w.alloc _ : World) = W
  have hm : Below w.heap.size w W := by subst hW; exact (Below.refl _ w).alloc (Nat.le_refl _) _
  have hb : Lib.IsBuilder 55 5 w.heap.size w.heap.size (Lib.byteCells (slL (s.data.toList.take 0))) W := by subst hW; exact Lib.fresh_isBuilder _ _ w
  clear hW
  go_loopg [7] s.size (fun k i wr => ∃ j : Nat, i = .int .i64 j ∧ k = s.size - j ∧ j ≤ s.size ∧ Below w.heap.size w wr ∧ Lib.IsBuilder 55 5 w.heap.size w.heap.size (Lib.byteCells (slL (s.data.toList.take j))) wr)
  case atStart => exact ⟨0, rfl, rfl, Nat.zero_le _, hm, hb⟩
  case round =>
    clear hm hb
    obtain ⟨j, rfl, rfl, hj, hm, hb⟩ := hrel
    have hl := (slL_len (s.data.toList.take j)).2
    have hl2 : (s.data.toList.take j).length ≤ j := List.length_take_le _ _
    by_cases hlt : j < s.size
    · have w1 : (j : Int) < s.size := by omega
      have w2 : (0 : Int) ≤ j := by omega
      have w3 : IntKind.i64.wrap ((j : Int) + 1) = (j : Int) + 1 := IntWalk.i64_in _ (by omega)
      have hsucc := slL_take s j hlt
      have HS := Lib.hid hsucc
      clear hsucc
      by_cases hp : punct s[j] = true
      · have HP : Hid (slB s[j] = [92] ++ [s[j]]) := by show slB _ = _; unfold slB; rw [if_pos hp]; rfl
        have hz := hm.size
        go_wp2_with fail
        refine (spec_IsPunct s[j] wr).mono ?_
        rintro e w' ⟨rfl, rfl⟩
        rw [hp]
        clear hp
        go_wp2_with fail
        refine (builder_byte _ _ _ 92 wr hb (by omega) hz).mono ?_
        rintro e w3 ⟨rfl, hb3, hm3⟩
        have hz3 := (hm.trans hm3).size
        go_wp2_with fail
        refine (builder_byte _ _ _ s[j] w3 hb3 (by simp; omega) hz3).mono ?_
        rintro e w4 ⟨rfl, hb4, hm4⟩
        go_wp2_with fail
        go_roundg (s.size - (j + 1))
        case measure => omega
        case rel => exact ⟨j + 1, rfl, rfl, by omega, (hm.trans hm3).trans hm4, by rw [HS.out, HP.out, ← List.append_assoc]; exact hb4⟩
      · have hp' : punct s[j] = false := by simpa using hp
        have HP : Hid (slB s[j] = [s[j]]) := by show slB _ = _; unfold slB; rw [if_neg hp]
        have hz := hm.size
        go_wp2_with fail
        refine (spec_IsPunct s[j] wr).mono ?_
        rintro e w' ⟨rfl, rfl⟩
        rw [hp']
        clear hp hp'
        go_wp2_with fail
        refine (builder_byte _ _ _ s[j] wr hb (by omega) hz).mono ?_
        rintro e w4 ⟨rfl, hb4, hm4⟩
        go_wp2_with fail
        go_roundg (s.size - (j + 1))
        case measure => omega
        case rel => exact ⟨j + 1, rfl, rfl, by omega, hm.trans hm4, by rw [HS.out, HP.out]; exact hb4⟩
    · have w1 : ¬ ((j : Int) < s.size) := by omega
      have hjs : j = s.size := by omega
      have hz := hm.size
      have hall : s.data.toList.take j = s.data.toList := List.take_of_length_le (by rw [hjs]; exact Nat.le_refl _)
      rw [hall] at hb
      clear hall hl hl2
      go_wp2_with fail
      refine (Tryz.Builder_String_any _ _ _ wr hb hz).mono ?_
      rintro e w4 ⟨rfl, hm4⟩
      go_wp2_with fail
      go_ret
      exact ⟨rfl, Below.mods (S := fun _ => False) (hm.trans hm4) (fun k hk hk2 => absurd hk (by omega))⟩
end Go.Proofs.YtdnlfdppjfjncaaGreatDoor

/- htmlEntity, mdUnescaper.Replace: some text comes out, whatever goes in. -/
namespace Go.Proofs.YtdnlfdppjfjncaaGreatDoor
open Go Go.RowKit Go.Proofs

/-- The table of entities. -/
def entL : List (List UInt8 × List UInt8) := [([38, 97, 109, 112, 59], [38]), ([38, 97, 112, 111, 115, 59], [39]), ([38, 99, 111, 112, 121, 59], [194, 169]), ([38, 102, 114, 97, 99, 51, 52, 59], [194, 190]), ([38, 103, 116, 59], [62]), ([38, 104, 101, 108, 108, 105, 112, 59], [226, 128, 166]),
  ([38, 108, 116, 59], [60]), ([38, 109, 100, 97, 115, 104, 59], [226, 128, 148]), ([38, 110, 98, 115, 112, 59], [194, 160]), ([38, 110, 100, 97, 115, 104, 59], [226, 128, 147]), ([38, 113, 117, 111, 116, 59], [34]), ([38, 114, 101, 103, 59], [194, 174])]
theorem entL_len : entL.length = 12 := rfl
theorem entL_short : ∀ p ∈ entL, p.2.length ≤ 10 := by decide

def EntAt (w : World) : Prop := ∀ (i : Nat) (p : List UInt8 × List UInt8), entL[i]? = some p → w.cell? ⟨1, i * 2, none⟩ = some (.string (strL p.1)) ∧ w.cell? ⟨1, i * 2 + 1, none⟩ = some (.string (strL p.2))
theorem EntAt.lt {w : World} (h : EntAt w) : 1 < w.heap.size := World.block_lt_of_cell? _ _ (h 0 _ rfl).1
theorem EntAt.of_mods {S : Nat → Prop} {w w' : World} (h : EntAt w) (hm : Mods S w w') (hS : ¬ S 1) : EntAt w' := fun i p hp => by
  obtain ⟨h1, h2⟩ := h i p hp
  have hb := hm.block 1 h.lt hS
  exact ⟨(World.cell?_of_block hb).trans h1, (World.cell?_of_block hb).trans h2⟩
theorem EntAt.same {w w' : World} (h : EntAt w) (hm : Same w w') : EntAt w' := h.of_mods hm (fun x => x)
theorem EntAt.below {w w' : World} {B : Nat} (h : EntAt w) (hm : Below B w w') (hB : 1 < B) : EntAt w' := fun i p hp => by
  obtain ⟨h1, h2⟩ := h i p hp
  exact ⟨(World.cell?_of_block (hm.block 1 hB)).trans h1, (World.cell?_of_block (hm.block 1 hB)).trans h2⟩

/-- What stands beside a name in the table. -/
def entFind : List (List UInt8 × List UInt8) → ByteArray → Option (List UInt8)
  | [], _ => none
  | p :: t, s => if strL p.1 = s then some p.2 else entFind t s
theorem entFind_hit : ∀ {t : List (List UInt8 × List UInt8)} {i : Nat} {p : List UInt8 × List UInt8} {s : ByteArray}, t[i]? = some p → (∀ (k : Nat) (q : List UInt8 × List UInt8), k < i → t[k]? = some q → strL q.1 ≠ s) → strL p.1 = s → entFind t s = some p.2
  | [], i, p, s, h, _, _ => by simp at h
  | q :: t, 0, p, s, h, _, he => by
    have : q = p := by simpa using h
    subst this
    rw [entFind, if_pos he]
  | q :: t, i + 1, p, s, h, hn, he => by
    rw [entFind, if_neg (hn 0 q (by omega) rfl)]
    exact entFind_hit (by simpa using h) (fun k r hk hr => hn (k + 1) r (by omega) (by simpa using hr)) he
theorem entFind_miss : ∀ {t : List (List UInt8 × List UInt8)} {s : ByteArray}, (∀ (k : Nat) (q : List UInt8 × List UInt8), t[k]? = some q → strL q.1 ≠ s) → entFind t s = none
  | [], s, _ => rfl
  | q :: t, s, hn => by
    rw [entFind, if_neg (hn 0 q rfl)]
    exact entFind_miss (fun k r hr => hn (k + 1) r (by simpa using hr))
theorem entFind_mem : ∀ {t : List (List UInt8 × List UInt8)} {s : ByteArray} {r : List UInt8}, entFind t s = some r → ∃ p ∈ t, p.2 = r
  | [], s, r, h => by cases h
  | q :: t, s, r, h => by
    rw [entFind] at h
    split at h
    · exact ⟨q, by simp, Option.some.inj h⟩
    · obtain ⟨p, h1, h2⟩ := entFind_mem h
      exact ⟨p, List.mem_cons_of_mem _ h1, h2⟩

def entV (o : Option (List UInt8)) : Value := match o with
  | some r => .tuple #[.string (strL r), .bool true]
  | none => .tuple #[.string ⟨#[]⟩, .bool false]

theorem str_beq {a b : ByteArray} : (a.toList = b.toList) ↔ a = b := by
  constructor
  · intro e
    apply ByteArray.ext
    apply Array.ext'
    rw [← ByteArray.toList_eq, ← ByteArray.toList_eq, e]
  · intro e; rw [e]

set_option maxHeartbeats 2000000 in
theorem htmlEntity_any (s : ByteArray) (w : World) (h : EntAt w) :
    Calls Tryz.prog 122 #[.string s] w fun e w' => e = .returned (entV (entFind entL s)) ∧ w = w' := by
  go_enter Tryz.func122, Tryz.ntmps122
  go_wp2_with fail
  go_loopg [4] 12 (fun k v wr => ∃ i : Nat, v = .int .i64 i ∧ k = 12 - i ∧ i ≤ 12 ∧ (∀ (k : Nat) (q : List UInt8 × List UInt8), k < i → entL[k]? = some q → strL q.1 ≠ s) ∧ w = wr)
  case atStart => exact ⟨0, rfl, rfl, Nat.zero_le _, fun k q hk _ => absurd hk (Nat.not_lt_zero _), rfl⟩
  case round =>
    obtain ⟨i, rfl, rfl, hi, hno, rfl⟩ := hrel
    have HNO := Lib.hid hno
    clear hno
    by_cases hlt : i < 12
    · have w1 : (i : Int) < 12 := by omega
      have w2 : (0 : Int) ≤ i := by omega
      have w3 : IntKind.i64.wrap ((i : Int) + 1) = (i : Int) + 1 := IntWalk.i64_in _ (by omega)
      obtain ⟨p, hp⟩ : ∃ p, entL[i]? = some p := ⟨_, List.getElem?_eq_getElem (by rw [entL_len]; exact hlt)⟩
      obtain ⟨ha, hb⟩ := h i p hp
      have HP := Lib.hid hp
      clear h hp
      by_cases he : strL p.1 = s
      · have HV := Lib.hid (congrArg entV (entFind_hit HP.out HNO.out he))
        subst he
        go_wp2_with fail
        go_ret2
        exact ⟨by rw [HV.out]; rfl, rfl⟩
      · have HE := Lib.hid he
        have hd : ((strL p.1).toList == s.toList) = false := by
          apply beq_eq_false_iff_ne.2
          intro e
          exact he (str_beq.1 e)
        have hd2 : ¬ ((strL p.1).toList = s.toList) := fun e => he (str_beq.1 e)
        clear he
        go_wp2_with fail
        go_roundg (12 - (i + 1))
        case measure => omega
        case rel =>
          refine ⟨i + 1, by simp, rfl, by omega, fun k q hk hq => ?_, rfl⟩
          by_cases hki : k = i
          · subst hki
            have : q = p := Option.some.inj (hq.symm.trans HP.out)
            rw [this]; exact HE.out
          · exact HNO.out k q (by omega) hq
    · have w1 : ¬ ((i : Int) < 12) := by omega
      have hi12 : i = 12 := by omega
      subst hi12
      have HV := Lib.hid (congrArg entV (entFind_miss (t := entL) (s := s) (fun k q hq => HNO.out k q (by have := (List.getElem?_eq_some_iff.1 hq).1; rw [entL_len] at this; exact this) hq)))
      clear h
      go_wp2_with fail
      go_ret2
      exact ⟨by rw [HV.out]; rfl, rfl⟩

theorem strCells_bytes (s : ByteArray) : Lib.strCells s = Lib.byteCells s.data.toList := by simp [Lib.strCells, Lib.byteCells]

set_option maxHeartbeats 2000000 in
set_option maxRecDepth 100000 in
theorem builder_str (B b : Nat) (l : List UInt8) (s : ByteArray) (w : World) (h : Lib.IsBuilder 55 5 B b (Lib.byteCells l) w) (hlen : l.length ≤ 100000000) (hs : s.size ≤ 1000000) (hBw : B ≤ w.heap.size) :
    Calls Tryz.prog 47 #[.pointer (some ⟨b, 0, none⟩), .string s] w fun e w' => e = .returned (.tuple #[.int .i64 s.size, .nilIface]) ∧ Lib.IsBuilder 55 5 B b (Lib.byteCells (l ++ s.data.toList)) w' ∧ Below B w w' := by
  have hi0 : (Tryz.prog.info? 5).map (fun i => (i.zero, i.size, i.bytes)) = some (some (.int .u8 0), 1, 1) := by kernel_rfl
  obtain ⟨i0, hi, hz⟩ := Option.map_eq_some_iff.1 hi0
  simp only [Prod.mk.injEq] at hz
  obtain ⟨hz0, hz1, hz2⟩ := hz
  have hbl : (Lib.byteCells l).length = l.length := by simp [Lib.byteCells]
  have hlen' : (Lib.byteCells l).length ≤ 100000000 := by omega
  have HBS := Lib.hid (Lib.byteCells_append l s.data.toList)
  clear hbl hlen
  generalize hbs : Lib.byteCells l = bs at *
  go_enter Tryz.func47, Tryz.ntmps47
  go_wp2_with (go_at_call 54; refine (copyCheck_any B b bs _ h).mono ?_)
  rintro e w1 ⟨rfl, h1, hb1⟩
  obtain ⟨hB, v, hbk, hown, hne⟩ := h1
  have c0 : w1.cell? ⟨b, 0, none⟩ = some (.pointer (some ⟨b, 0, none⟩)) := by rw [Lib.cell_of_heap hbk]; rfl
  have c1 : w1.cell? ⟨b, 1, none⟩ = some v := by rw [Lib.cell_of_heap hbk]; rfl
  go_wp2_with (at_builtin; refine Lib.wpList_append_own_string _ rfl _ _ 35 9 rfl B 5 i0 Tryz.underlying35 Tryz.underlying9 hi hz0 hz1 hz2 _ _ _ rfl hown s rfl ?c3 ?c4 ?c5 ?_)
  case c3 => unfold maxLen; omega
  case c4 => omega
  case c5 => have := hb1.size; omega
  intro v' w2 hown' hgrow _
  have hlt : b < w1.heap.size := by
    rcases Nat.lt_or_ge b w1.heap.size with h' | h'
    · exact h'
    · simp [Array.getElem?_eq_none h'] at hbk
  have hb2 : w2.heap[b]? = some (.cells #[.pointer (some ⟨b, 0, none⟩), v] 55 (0, 0)) := by
    rw [hgrow.block b hlt (fun e => hne e.symm)]
    exact hbk
  have d0 : w2.cell? ⟨b, 0, none⟩ = some (.pointer (some ⟨b, 0, none⟩)) := by rw [Lib.cell_of_heap hb2]; rfl
  have d1 : w2.cell? ⟨b, 1, none⟩ = some v := by rw [Lib.cell_of_heap hb2]; rfl
  have f1 : w2.frozen? ⟨b, 1, none⟩ = false := Lib.frozen_of_heap hb2 1
  obtain ⟨ao, n', cap, rfl⟩ : ∃ ao n' cap, v' = .slice ao n' cap := by
    rcases hown'.2 with ⟨hv, _⟩ | ⟨g, cap, cur, hv, _⟩
    · exact ⟨_, _, _, hv⟩
    · exact ⟨_, _, _, hv⟩
  go_wp2
  go_ret2
  refine ⟨rfl, ?_, ?_⟩
  · rw [HBS.out]
    exact Or.inr (Lib.BuilderAt.put (T := 55) (e := 5) hB hb2 (bs' := bs ++ Lib.byteCells s.data.toList) (by rw [← strCells_bytes]; simpa [Lib.strCells_length] using hown') (by decide))
  · exact (hb1.grown hgrow (by have := hb1.size; omega) (fun k hk => (hown.lt k hk).1)).setCell (p := ⟨b, 1, none⟩) hB _

/-- What unescaping makes of a text from place i on. -/
def unF (s : ByteArray) (i : Nat) : List UInt8 :=
  if h : i < s.size then
    if hp : s[i] = 92 ∧ (∃ h1 : i + 1 < s.size, punct s[i + 1] = true) then (s[i + 1]'hp.2.1) :: unF s (i + 2)
    else if s[i] = 38 then
      (if fst1 s 59 (i + 1) < s.size then
        (match entFind entL (s.extract i (fst1 s 59 (i + 1) + 1)) with
          | some r => r ++ unF s (max (fst1 s 59 (i + 1) + 1) (i + 1))
          | none => s[i] :: unF s (i + 1))
      else s[i] :: unF s (i + 1))
    else s[i] :: unF s (i + 1)
  else []
termination_by s.size - i
decreasing_by all_goals omega

def unE (s : ByteArray) : ByteArray := strL (unF s 0)

theorem unF_end {s : ByteArray} {i : Nat} (h : ¬ i < s.size) : unF s i = [] := by rw [unF, dif_neg h]
theorem unF_esc {s : ByteArray} {i : Nat} (h : i < s.size) (h92 : s[i] = 92) (h1 : i + 1 < s.size) (hp : punct s[i + 1] = true) : unF s i = s[i + 1] :: unF s (i + 2) := by
  rw [unF, dif_pos h, dif_pos ⟨h92, h1, hp⟩]
theorem unF_one {s : ByteArray} {i : Nat} (h : i < s.size) (hn : ¬ (s[i] = 92 ∧ (∃ h1 : i + 1 < s.size, punct s[i + 1] = true))) (h38 : s[i] ≠ 38 ∨ ¬ fst1 s 59 (i + 1) < s.size ∨ entFind entL (s.extract i (fst1 s 59 (i + 1) + 1)) = none) :
    unF s i = s[i] :: unF s (i + 1) := by
  rw [unF, dif_pos h, dif_neg hn]
  split
  · rename_i e
    split
    · rename_i e2
      rcases h38 with h | h | h
      · exact absurd e h
      · exact absurd e2 h
      · rw [h]
    · rfl
  · rfl
theorem unF_ent {s : ByteArray} {i : Nat} {r : List UInt8} (h : i < s.size) (h38 : s[i] = 38) (hf : fst1 s 59 (i + 1) < s.size) (he : entFind entL (s.extract i (fst1 s 59 (i + 1) + 1)) = some r) :
    unF s i = r ++ unF s (fst1 s 59 (i + 1) + 1) := by
  have hge := (fst1_le s 59 (i + 1) (by omega)).1
  rw [unF, dif_pos h, dif_neg (by rw [h38]; intro hh; exact absurd hh.1 (by decide)), if_pos h38, if_pos hf, he]
  show r ++ unF s (max (fst1 s 59 (i + 1) + 1) (i + 1)) = _
  rw [Nat.max_eq_left (by omega)]

theorem unF_len (s : ByteArray) : ∀ (n i : Nat), s.size - i = n → (unF s i).length ≤ 11 * (s.size - i) := by
  intro n
  induction n using Nat.strongRecOn with
  | ind n ih =>
    intro i hn
    by_cases h : i < s.size
    · by_cases hp : s[i] = 92 ∧ (∃ h1 : i + 1 < s.size, punct s[i + 1] = true)
      · rw [unF_esc h hp.1 hp.2.1 hp.2.2, List.length_cons]
        have := hp.2.1
        have := ih (s.size - (i + 2)) (by omega) (i + 2) rfl
        omega
      · by_cases h38 : s[i] ≠ 38 ∨ ¬ fst1 s 59 (i + 1) < s.size ∨ entFind entL (s.extract i (fst1 s 59 (i + 1) + 1)) = none
        · rw [unF_one h hp h38, List.length_cons]
          have := ih (s.size - (i + 1)) (by omega) (i + 1) rfl
          omega
        · simp only [not_or, ne_eq, Decidable.not_not] at h38
          obtain ⟨h1, h2, h3⟩ := h38
          have hge := (fst1_le s 59 (i + 1) (by omega)).1
          cases he : entFind entL (s.extract i (fst1 s 59 (i + 1) + 1)) with
          | none => exact absurd he h3
          | some r =>
            rw [unF_ent h h1 h2 he, List.length_append]
            obtain ⟨p, hp1, hp2⟩ := entFind_mem he
            have := entL_short p hp1
            rw [hp2] at this
            have := ih (s.size - (fst1 s 59 (i + 1) + 1)) (by omega) (fst1 s 59 (i + 1) + 1) rfl
            omega
    · rw [unF_end h]; simp
theorem unE_size (s : ByteArray) : (unE s).size ≤ 11 * s.size := by
  have := unF_len s _ 0 rfl
  unfold unE
  rw [strL_size]
  omega

/-- This text has been written into the builder at B. -/
def Wr (B : Nat) (w wr : World) (l : List UInt8) : Prop := Below B w wr ∧ Lib.IsBuilder 55 5 B B (Lib.byteCells l) wr ∧ B ≤ w.heap.size

theorem wr_byte {B : Nat} {w wr : World} {l : List UInt8} (c : UInt8) (h : Wr B w wr l) (hl : l.length ≤ 20000000) :
    Calls Tryz.prog 42 #[.pointer (some ⟨B, 0, none⟩), .int .u8 c.toNat] wr fun e w' => e = .returned .nilIface ∧ Wr B w w' (l ++ [c]) := by
  obtain ⟨hb, hB, hBw⟩ := h
  refine (builder_byte _ _ l c wr hB (by omega) (Nat.le_trans hBw hb.size)).mono ?_
  rintro e w' ⟨rfl, h1, h2⟩
  exact ⟨rfl, hb.trans h2, h1, hBw⟩

theorem wr_str {B : Nat} {w wr : World} {l : List UInt8} (r : List UInt8) (hs : r.length ≤ 10) (h : Wr B w wr l) (hl : l.length ≤ 20000000) :
    Calls Tryz.prog 47 #[.pointer (some ⟨B, 0, none⟩), .string (strL r)] wr fun e w' => e = .returned (.tuple #[.int .i64 (strL r).size, .nilIface]) ∧ Wr B w w' (l ++ r) := by
  obtain ⟨hb, hB, hBw⟩ := h
  refine (builder_str _ _ l (strL r) wr hB (by omega) (by rw [strL_size]; omega) (Nat.le_trans hBw hb.size)).mono ?_
  rintro e w' ⟨rfl, h1, h2⟩
  have e1 : (strL r).data.toList = r := by simp [strL]
  rw [e1] at h1
  exact ⟨rfl, hb.trans h2, h1, hBw⟩

set_option maxRecDepth 100000 in
set_option maxHeartbeats 8000000 in
theorem unescape_any (s : ByteArray) (w : World) (hs : s.size ≤ 900000) (h : EntAt w) :
    Calls Tryz.prog 176 #[.agg #[], .string s] w fun e w' => e = .returned (.string (unE s)) ∧ Same w w' := by
  have hE1 := h.lt
  have HENT := Lib.hid h
  clear h
  go_enter Tryz.func176, Tryz.ntmps176
  go_wp2_with fail
  generalize hW : (w.alloc _ : World) = w0
  have hm0 : Same w w0 := by subst hW; exact (Mods.refl _ w).alloc _
  have hs0 : w0.heap.size = w.heap.size + 1 := by subst hW; simp
  clear hW
  generalize hW : (w0.alloc _ : World) = W
  have hWr : Wr (w.heap.size + 1) w0 W [] := by
    subst hW
    rw [← hs0]
    exact ⟨(Below.refl _ w0).alloc (Nat.le_refl _) _, Lib.fresh_isBuilder _ _ w0, Nat.le_refl _⟩
  clear hW
  have hE0 : Hid (EntAt w0) := Lib.hid (HENT.out.same hm0)
  have HS0 := Lib.hid hs0
  clear hs0
  go_loopg [6] s.size (fun k v wr => ∃ (i : Nat) (l : List UInt8), v = .int .i64 i ∧ k = s.size - i ∧ i ≤ s.size ∧ l ++ unF s i = unF s 0 ∧ Wr (w.heap.size + 1) w0 wr l)
  case atStart => exact ⟨0, [], rfl, rfl, Nat.zero_le _, rfl, hWr⟩
  case round =>
    clear hWr
    obtain ⟨i, l, rfl, rfl, hi, hlu, hwr⟩ := hrel
    have HWR := Lib.hid hwr
    have HLU := Lib.hid hlu
    have hll : l.length ≤ 20000000 := by
      have h1 := congrArg List.length hlu
      have h2 := unF_len s _ 0 rfl
      rw [List.length_append] at h1
      omega
    have HE : Hid (EntAt wr) := Lib.hid (hE0.out.below hwr.1 (by omega))
    clear hwr hlu
    by_cases hlt : i < s.size
    · have w1 : (i : Int) < s.size := by omega
      have w2 : (0 : Int) ≤ i := by omega
      have w3 : IntKind.i64.wrap ((i : Int) + 1) = (i : Int) + 1 := IntWalk.i64_in _ (by omega)
      have PLAIN := Lib.hid (wr_byte s[i] HWR.out hll)
      have ONE : ∀ (_ : ¬ (s[i] = 92 ∧ (∃ h1 : i + 1 < s.size, punct s[i + 1] = true))) (_ : s[i] ≠ 38 ∨ ¬ fst1 s 59 (i + 1) < s.size ∨ entFind entL (s.extract i (fst1 s 59 (i + 1) + 1)) = none), Hid ((l ++ [s[i]]) ++ unF s (i + 1) = unF s 0) := fun h1 h2 => Lib.hid (by rw [← HLU.out, unF_one hlt h1 h2, List.append_assoc]; rfl)
      by_cases h92 : s[i] = 92
      · have d1 : ((s[i].toNat : Int) == 92) = true := by rw [h92]; rfl
        have d2 : ((s[i].toNat : Int) == 38) = false := by rw [h92]; rfl
        have n38 : s[i] ≠ 38 := by rw [h92]; decide
        have H92 := Lib.hid h92
        have N38 := Lib.hid n38
        clear h92 n38
        by_cases h1 : i + 1 < s.size
        · have v1 : (i : Int) + 1 < s.size := by omega
          have v2 : (0 : Int) ≤ (i : Int) + 1 := by omega
          have v3 : ((i : Int) + 1).toNat = i + 1 := by omega
          have v4 : IntKind.i64.wrap ((i : Int) + 1 + 1) = (i : Int) + 1 + 1 := IntWalk.i64_in _ (by omega)
          by_cases hp : punct s[i + 1] = true
          · have HO : Hid ((l ++ [s[i + 1]]) ++ unF s (i + 2) = unF s 0) := Lib.hid (by rw [← HLU.out, unF_esc hlt H92.out h1 hp, List.append_assoc]; rfl)
            have HPU := Lib.hid hp
            clear hp ONE
            go_wp2_with fail
            refine (isPunct_any s[i + 1] wr).mono ?_
            rintro e w' ⟨rfl, rfl⟩
            rw [HPU.out]
            go_wp2_with fail
            refine (wr_byte s[i + 1] HWR.out hll).mono ?_
            rintro e w4 ⟨rfl, h4⟩
            go_wp2_with fail
            go_roundg (s.size - (i + 2))
            case measure => omega
            case rel =>
              exact ⟨i + 2, _, by have : ((i + 2 : Nat) : Int) = (i : Int) + 1 + 1 := by omega
                                  rw [this], rfl, by omega, HO.out, h4⟩
          · have hp' : punct s[i + 1] = false := by simpa using hp
            have HO := ONE (fun hh => hp hh.2.2) (Or.inl N38.out)
            have HPU := Lib.hid hp'
            clear hp hp' ONE
            go_wp2_with fail
            refine (isPunct_any s[i + 1] wr).mono ?_
            rintro e w' ⟨rfl, rfl⟩
            rw [HPU.out]
            go_wp2_with fail
            refine PLAIN.out.mono ?_
            rintro e w4 ⟨rfl, h4⟩
            go_wp2_with fail
            go_roundg (s.size - (i + 1))
            case measure => omega
            case rel => exact ⟨i + 1, _, by simp, rfl, by omega, HO.out, h4⟩
        · have v1 : ¬ ((i : Int) + 1 < s.size) := by omega
          have HO := ONE (fun hh => h1 hh.2.1) (Or.inl N38.out)
          clear ONE
          go_wp2_with fail
          refine PLAIN.out.mono ?_
          rintro e w4 ⟨rfl, h4⟩
          go_wp2_with fail
          go_roundg (s.size - (i + 1))
          case measure => omega
          case rel => exact ⟨i + 1, _, by simp, rfl, by omega, HO.out, h4⟩
      · have d1 : ((s[i].toNat : Int) == 92) = false := bne_byte (k := 92) h92 (by omega)
        have N92 : Hid (¬ (s[i] = 92 ∧ (∃ h1 : i + 1 < s.size, punct s[i + 1] = true))) := Lib.hid (fun hh => h92 hh.1)
        clear h92
        by_cases h38 : s[i] = 38
        · have d2 : ((s[i].toNat : Int) == 38) = true := by rw [h38]; rfl
          have H38 := Lib.hid h38
          clear h38
          go_wp2_with fail
          go_loopg [7] (s.size - (i + 1)) (fun k v wx => ∃ j : Nat, v = .int .i64 j ∧ k = s.size - j ∧ i + 1 ≤ j ∧ j ≤ s.size ∧ fst1 s 59 j = fst1 s 59 (i + 1) ∧ wx = wr)
          case atStart => exact ⟨i + 1, by simp, rfl, Nat.le_refl _, by omega, rfl, rfl⟩
          case round =>
            obtain ⟨j, rfl, rfl, hj1, hj2, hfj, rfl⟩ := hrel
            have HFJ := Lib.hid hfj
            clear hfj
            have u3 : IntKind.i64.wrap ((j : Int) + 1) = (j : Int) + 1 := IntWalk.i64_in _ (by omega)
            by_cases hjl : j < s.size
            · have u1 : (j : Int) < s.size := by omega
              have u2 : (0 : Int) ≤ j := by omega
              by_cases h59 : s[j] = 59
              · have d3 : ((s[j].toNat : Int) == 59) = true := by rw [h59]; rfl
                have u4 : (j : Int) + 1 ≤ s.size := by omega
                have u5 : (i : Int) ≤ (j : Int) + 1 := by omega
                have u6 : ((j : Int) + 1).toNat = j + 1 := by omega
                have u7 : (0 : Int) ≤ (j : Int) + 1 := by omega
                have HF : Hid (fst1 s 59 (i + 1) = j) := Lib.hid (by rw [← HFJ.out, fst1, dif_pos hjl, if_pos h59])
                clear h59
                cases hent : entFind entL (s.extract i (j + 1)) with
                | none =>
                  have HO := ONE N92.out (Or.inr (Or.inr (by rw [HF.out]; exact hent)))
                  have HENTF := Lib.hid hent
                  clear hent ONE
                  go_wp2_with fail
                  refine (htmlEntity_any (s.extract i (j + 1)) wr HE.out).mono ?_
                  rintro e w' ⟨rfl, rfl⟩
                  rw [HENTF.out]
                  unfold entV
                  go_wp2_with fail
                  refine PLAIN.out.mono ?_
                  rintro e w4 ⟨rfl, h4⟩
                  go_wp2_with fail
                  go_roundg (s.size - (i + 1))
                  case measure => omega
                  case rel => exact ⟨i + 1, _, by simp, rfl, by omega, HO.out, h4⟩
                | some r =>
                  have HO : Hid ((l ++ r) ++ unF s (j + 1) = unF s 0) := Lib.hid (by
                    rw [← HLU.out, unF_ent hlt H38.out (by rw [HF.out]; exact hjl) (by rw [HF.out]; exact hent), HF.out, List.append_assoc])
                  have hr : r.length ≤ 10 := by
                    obtain ⟨p, hp1, hp2⟩ := entFind_mem hent
                    rw [← hp2]; exact entL_short p hp1
                  have HENTF := Lib.hid hent
                  clear hent ONE
                  go_wp2_with fail
                  refine (htmlEntity_any (s.extract i (j + 1)) wr HE.out).mono ?_
                  rintro e w' ⟨rfl, rfl⟩
                  rw [HENTF.out]
                  unfold entV
                  go_wp2_with fail
                  refine (wr_str r hr HWR.out hll).mono ?_
                  rintro e w4 ⟨rfl, h4⟩
                  go_wp2_with fail
                  go_roundg (s.size - (j + 1))
                  case measure => omega
                  case rel => exact ⟨j + 1, _, by simp, rfl, by omega, HO.out, h4⟩
              · have d3 : ((s[j].toNat : Int) == 59) = false := bne_byte (k := 59) h59 (by omega)
                have HF : Hid (fst1 s 59 (j + 1) = fst1 s 59 (i + 1)) := Lib.hid (by rw [← HFJ.out, fst1.eq_1 s 59 j, dif_pos hjl, if_neg h59])
                clear h59
                go_wp2_with fail
                go_roundg (s.size - (j + 1))
                case measure => omega
                case rel => exact ⟨j + 1, by simp, rfl, by omega, by omega, HF.out, rfl⟩
            · have u1 : ¬ ((j : Int) < s.size) := by omega
              have HO := ONE N92.out (Or.inr (Or.inl (by rw [← HFJ.out, fst1, dif_neg hjl]; omega)))
              clear ONE
              go_wp2_with fail
              refine PLAIN.out.mono ?_
              rintro e w4 ⟨rfl, h4⟩
              go_wp2_with fail
              go_roundg (s.size - (i + 1))
              case measure => omega
              case rel => exact ⟨i + 1, _, by simp, rfl, by omega, HO.out, h4⟩
        · have d2 : ((s[i].toNat : Int) == 38) = false := bne_byte (k := 38) h38 (by omega)
          have HO := ONE N92.out (Or.inl h38)
          clear h38 ONE
          go_wp2_with fail
          refine PLAIN.out.mono ?_
          rintro e w4 ⟨rfl, h4⟩
          go_wp2_with fail
          go_roundg (s.size - (i + 1))
          case measure => omega
          case rel => exact ⟨i + 1, _, by simp, rfl, by omega, HO.out, h4⟩
    · have w1 : ¬ ((i : Int) < s.size) := by omega
      have HO : Hid (unF s 0 = l) := Lib.hid (by rw [← HLU.out, unF_end hlt, List.append_nil])
      obtain ⟨hb, hB, hBw⟩ := HWR.out
      go_wp2_with fail
      refine (Tryz.Builder_String_any _ _ _ wr hB (Nat.le_trans hBw hb.size)).mono ?_
      rintro e w4 ⟨rfl, hm4⟩
      go_wp2_with fail
      go_ret
      exact ⟨congrArg (fun t => Ending.returned (Value.string (strL t))) HO.out.symm, hm0.trans (Below.mods (S := fun _ => False) (hb.trans hm4) (fun k hk hk2 => absurd hk (by have := HS0.out; omega)))⟩
end Go.Proofs.YtdnlfdppjfjncaaGreatDoor

/- addLine where a paragraph is open below the document: the line goes on with it. -/
namespace Go.Proofs.YtdnlfdppjfjncaaGreatDoor
open Go Go.RowKit Go.Proofs

theorem line_neq_same (i : Nat) (text : ByteArray) (nl : Int) (w : World) : (binOp .neq 104 (LV i text nl) (LV i text nl)).run Tryz.prog w = .ok (.bool false) w := by
  have hs : Tryz.prog.stoodInHeld 104 = false := by kernel_rfl
  have key : ∀ fs, Tryz.prog.underlying 104 = some (.struct fs) → Tryz.prog.fieldsOf 104 = fs := fun fs h => by simp [Program.fieldsOf, h]
  have hf := key _ Tryz.underlying104
  rw [run_neq_struct, run_equalIn_struct w 9999 104 _ _ (by rw [hf]; exact Tryz.underlying104) hs, hf]
  simp [Op.eqFields, part, go_sem]

theorem m_extend_para (k : Nat) (a : Addr) (w : World) : (method (k + 1) 162 (.pointer (some a)) "pub-paratext/pub/rscmarkdown.extend").run Tryz.prog w = .ok (289, .pointer (some a)) w := by kernel_rfl

/-- A paragraph takes no line by itself. -/
theorem para_extend (v q : Value) (i : Nat) (text : ByteArray) (nl : Int) (w : World) :
    Calls Tryz.prog 289 #[v, q, LV i text nl] w fun e w' => e = .returned (.tuple #[LV i text nl, .bool false]) ∧ Same w w' := by
  go_enter Tryz.func289, Tryz.ntmps289
  go_wp2_with fail
  exact bodyPost_ret (v := .tuple #[LV i text nl, .bool false]) (by simp [results, Tryz.results289, go_sem]) rfl ⟨rfl, ((Mods.refl _ w).alloc _).alloc _⟩

theorem ParaL.depth0 {w : World} {bp g n cap : Nat} {p : PSt} {L : List OB} {bb gt ct m : Nat} {xs : List ByteArray} (h : ParaL w bp g n cap p L bb gt ct m xs) :
    ParaL (w.setCell ⟨bp, 5, none⟩ (.int .i64 0)) bp g n cap { p with depth := 0 } L bb gt ct m xs ∧ Mods (fun k => k = bp) w (w.setCell ⟨bp, 5, none⟩ (.int .i64 0)) := by
  have hm : Mods (fun k => k = bp) w (w.setCell ⟨bp, 5, none⟩ (.int .i64 0)) := (Mods.refl (fun k => k = bp) w).setCell (p := ⟨bp, 5, none⟩) (fun _ => rfl) _
  obtain ⟨tail, htl⟩ := id h.at_
  exact ⟨⟨h.at_.set 5 _ { p with depth := 0 } rfl (by decide), h.stack, h.small, h.len, ownsRow_keep h.row hm (fun b hb x => by cases hb; exact htl.own_ne h.row (by decide) x.symm), h.top,
    h.blk.keep1 hm (h.blk.ne_of_type htl (by decide)), ownsRow_keep h.txt hm (fun b hb x => by cases hb; exact htl.own_ne h.txt (by decide) x.symm)⟩, hm⟩

theorem ParaL.keep {S : Nat → Prop} {w w' : World} {bp g n cap : Nat} {p : PSt} {L : List OB} {bb gt ct m : Nat} {xs : List ByteArray} (h : ParaL w bp g n cap p L bb gt ct m xs) (hm : Mods S w w') (h1 : ¬ S bp) (h2 : ¬ S g) (h3 : ¬ S bb) (h4 : ¬ S gt) :
    ParaL w' bp g n cap p L bb gt ct m xs :=
  ⟨h.at_.keep hm h1, h.stack, h.small, h.len, ownsRow_keep h.row hm (fun b hb x => by cases hb; exact h2 x), h.top, h.blk.keep hm h3, ownsRow_keep h.txt hm (fun b hb x => by cases hb; exact h4 x)⟩

theorem ParaL.lts {w : World} {bp g n cap : Nat} {p : PSt} {L : List OB} {bb gt ct m : Nat} {xs : List ByteArray} (h : ParaL w bp g n cap p L bb gt ct m xs) (hm : 0 < m) : bp < w.heap.size ∧ g < w.heap.size ∧ bb < w.heap.size ∧ gt < w.heap.size := by
  obtain ⟨_, _, he, ⟨cur, hcur⟩, _, _⟩ := ownsRow_form h.row (by omega)
  cases he
  obtain ⟨_, _, he, ⟨cur2, hcur2⟩, _, _⟩ := ownsRow_form h.txt hm
  cases he
  exact ⟨h.at_.lt, hcur.lt, h.blk.lt, hcur2.lt⟩

set_option maxRecDepth 100000 in
set_option maxHeartbeats 8000000 in
theorem addLine_cont (bp g cap : Nat) (p : PSt) (L : List OB) (bb gt ct m : Nat) (xs : List ByteArray) (text : ByteArray) (nl : Int) (w : World) (h : ParaL w bp g 1 cap p L bb gt ct m xs)
    (hs : text.size ≤ 1000000) (hbl : blankAt text 0 = false) (hO : Opt w p 5 false) (hp1 : p.parser ≠ bp) (hp2 : p.parser ≠ g) (hm0 : 0 < m) (hm6 : m ≤ 100000)
    (hN : ∀ W, ParaL W bp g 1 cap { p with depth := 0 } L bb gt ct m xs → TriesNo W bp 0 text nl) :
    Calls Tryz.prog 64 #[.pointer (some ⟨bp, 0, none⟩), LV 0 text nl] w fun e w' => e = .returned (.tuple #[]) ∧
      Mods (fun k => k = bp ∨ k = g ∨ k = bb ∨ k = gt) w w' ∧ ∃ gt' ct', ParaL w' bp g 1 cap { p with depth := 0 } (updE L 0 2 p.lineno) bb gt' ct' (m + 1) (xs ++ [trimL (text.extract 0 text.size)]) ∧ (gt' = gt ∨ w.heap.size ≤ gt') := by
  have k5 := h.at_.depth
  have f5 := h.at_.fr 5
  have hbpl := h.at_.lt
  go_enter Tryz.func64, Tryz.ntmps64
  go_wp2
  go_step3
  go_wp2
  generalize hW : (World.alloc _ _ : World) = W
  have hd0 := h.depth0
  have hmW : Mods (fun k => k = bp) w W := by subst hW; exact hd0.2.alloc _
  have h0 : ParaL W bp g 1 cap { p with depth := 0 } L bb gt ct m xs := by subst hW; exact hd0.1.same ((Mods.refl _ _).alloc _)
  have hbk : LineAt W w.heap.size 0 text nl := by subst hW; exact Blk.newAt _ _ (by simp)
  clear hW hd0
  have hO0 : Opt W p 5 false := hO.keep hmW hp1
  clear k5 f5 hbpl
  have hx := m_extend_para
  have hq := line_neq_same
  go_loopg [] 0 (fun g wr => W = wr)
  case atStart => rfl
  case round =>
    subst hrel
    have k4 := h0.at_.stack
    rw [h0.stack] at k4
    have k5 : W.cell? ⟨bp, 5, none⟩ = some (.int .i64 0) := h0.at_.depth
    have kt : W.cell? ⟨g, 4, none⟩ = some (.iface 162 (.pointer (some ⟨bb, 0, none⟩))) := h0.inPara.top
    have hgl : g < W.heap.size := World.block_lt_of_cell? _ _ kt
    go_wp2_with fail
    go_quiet (fail)
    generalize hX : (W.drewN _ : World) = W1
    have hm1 : Same W W1 := by subst hX; exact (Mods.refl _ W).drewN _
    clear hX k4 k5 kt
    have h1 := h0.same hm1
    have hbk1 := Same.blk hm1 hbk
    obtain ⟨g0, g1, g2, g3, g4, gf0, gf1, gf2, gf3, gf4, gbl⟩ := LineAt.facts hbk1
    go_wp2_with fail
    clear g0 g1 g2 g3 g4 gf0 gf1 gf2 gf3 gf4 gbl hgl
    generalize hX : (W1.alloc _ : World) = X
    have hm2 : Same W1 X := by subst hX; exact (Mods.refl _ W1).alloc _
    have hold : LineAt X W1.heap.size 0 text nl := by subst hX; exact Blk.newAt _ _ rfl
    clear hX
    have h2 := h1.same hm2
    have hbk2 := Same.blk hm2 hbk1
    have hkX : Same W X := hm1.trans hm2
    clear h1 hbk1
    have hS0 : Same X X := Mods.refl _ _
    have HE : ∀ V, Same X V → Calls Tryz.prog 289 #[.pointer (some ⟨bb, 0, none⟩), .pointer (some ⟨bp, 0, none⟩), LV 0 text nl] V fun e V' => e = .returned (.tuple #[LV 0 text nl, .bool false]) ∧ Same X V' ∧
        (V'.cell? ⟨w.heap.size, 0, none⟩ = some (.int .i64 0) ∧ V'.cell? ⟨w.heap.size, 1, none⟩ = some (.int .i64 0) ∧ V'.cell? ⟨w.heap.size, 2, none⟩ = some (.int .i64 0) ∧ V'.cell? ⟨w.heap.size, 3, none⟩ = some (.string text) ∧ V'.cell? ⟨w.heap.size, 4, none⟩ = some (.int .u8 nl) ∧
          V'.frozen? ⟨w.heap.size, 0, none⟩ = false ∧ V'.frozen? ⟨w.heap.size, 1, none⟩ = false ∧ V'.frozen? ⟨w.heap.size, 2, none⟩ = false ∧ V'.frozen? ⟨w.heap.size, 3, none⟩ = false ∧ V'.frozen? ⟨w.heap.size, 4, none⟩ = false ∧ w.heap.size < V'.heap.size) := fun V hV =>
      (para_extend _ _ 0 text nl V).mono fun e V' ⟨x1, x2⟩ => ⟨x1, hV.trans x2, LineAt.facts (Same.blk (hV.trans x2) hbk2)⟩
    have k4 := h2.at_.stack
    rw [h2.stack] at k4
    have k5 : X.cell? ⟨bp, 5, none⟩ = some (.int .i64 0) := h2.at_.depth
    have kt : X.cell? ⟨g, 4, none⟩ = some (.iface 162 (.pointer (some ⟨bb, 0, none⟩))) := h2.inPara.top
    have hgl : g < X.heap.size := World.block_lt_of_cell? _ _ kt
    have hbpl := h2.at_.lt
    obtain ⟨g0, g1, g2, g3, g4, gf0, gf1, gf2, gf3, gf4, gbl⟩ := LineAt.facts hbk2
    go_upto_region 6 with (fail)
    go_cut [5] (fun s5 wx => s5 = .bool false ∧ Mods (fun k => k = w.heap.size) W wx ∧ LineAt wx w.heap.size 0 text nl ∧ LineAt wx W1.heap.size 0 text nl)
    case first =>
      go_region_with ((go_at_call 289; refine (HE _ (by repeat (first | assumption | apply Mods.drew))).mono ?_; rintro e' wC ⟨rfl, hmC, c0, c1, c2, c3, c4, cf0, cf1, cf2, cf3, cf4, cbl⟩))
      all_goals
        have hbC := Same.blk hmC hbk2
        have hoC := Same.blk hmC hold
        have hzm := hm1.size
        have hzW := hmW.size
        have hP := put5 hbC 0 text nl
        have hkC : Same W wC := hkX.trans hmC
        have hzn : W1.heap.size ≠ w.heap.size := by have := hbk.lt; omega
        clear g0 g1 g2 g3 g4 gf0 gf1 gf2 gf3 gf4 gbl c0 c1 c2 c3 c4 cf0 cf1 cf2 cf3 cf4 cbl k4 k5 kt hx hq HE
        go_wp2_with fail
        go_meet
        case rel => exact ⟨rfl, (hkC.mono (fun _ _ h => absurd h (fun x => x))).trans hP.1, hP.2, hoC.keep1 hP.1 hzn⟩
    case rest =>
      obtain ⟨rfl, hmx, hbx, hox⟩ := hcut
      have hlts := h.lts hm0
      have hx0 : ParaL wc bp g 1 cap { p with depth := 0 } L bb gt ct m xs := h0.keep hmx (by omega) (by omega) (by omega) (by omega)
      have hTX := hN wc hx0
      have hOx : Opt wc p 5 false := hO0.keep hmx (by have hplt : p.parser < w.heap.size := World.block_lt_of_cell? _ _ hO.cell; omega)
      have hMx : Mods (fun k => k = bp) w wc := hmW.then hmx (fun b hb h => by omega)
      clear h0 hbk hO0 hmW hm1 hold hm2 h2 hbk2 hkX HE k4 k5 kt hgl hbpl g0 g1 g2 g3 g4 gf0 gf1 gf2 gf3 gf4 gbl hS0 hmx hx
      go_wp2_with fail
      refine (isBlank_any _ _ _ _ _ hs (Nat.zero_le _) hox).mono ?_
      rintro e w2 ⟨rfl, n2, rfl⟩
      rw [show (trimL (text.extract 0 text.size)).toList.isEmpty = false from hbl]
      have hbx2 : LineAt (wc.drewN n2) w.heap.size 0 text nl := hbx
      have hox2 : LineAt (wc.drewN n2) W1.heap.size 0 text nl := hox
      obtain ⟨g0, g1, g2, g3, g4, gf0, gf1, gf2, gf3, gf4, gbl⟩ := LineAt.facts hbx2
      obtain ⟨o0, o1, o2, o3, o4, of0, of1, of2, of3, of4, obl⟩ := LineAt.facts hox2
      go_wp2_with fail
      have hmB : Same wc (wc.drewN n2) := (Mods.refl _ _).drewN _
      generalize wc.drewN n2 = wB at *
      have hstop : Same wc wB := hmB
      clear hbx hox o0 o1 o2 o3 o4 of0 of1 of2 of3 of4 obl g0 g1 g2 g3 g4 gf0 gf1 gf2 gf3 gf4 gbl hox2
      refine (isBlank_any _ _ _ _ _ hs (Nat.zero_le _) hbx2).mono ?_
      rintro e w3 ⟨rfl, n3, rfl⟩
      rw [show (trimL (text.extract 0 text.size)).toList.isEmpty = false from hbl]
      have hbk3 : LineAt (wB.drewN n3) w.heap.size 0 text nl := hbx2
      have hm3 : Same wc (wB.drewN n3) := hstop.drewN _
      generalize wB.drewN n3 = w3 at *
      clear hbx2 hmB hstop hbl
      go_wp2_with fail
      go_step3
      go_wp2_with fail
      refine (news_any _).mono ?_
      rintro e w4 ⟨nb, rfl, hm4, hnb⟩
      have hm34 := hm3.trans hm4
      have hbk4 := Same.blk hm4 hbk3
      clear hm3 hm4 hbk3
      go_wp2
      go_loopg [88] 8 (fun gg j wr => ∃ k : Nat, gg = 8 - k ∧ j = .int .i64 k ∧ k ≤ 8 ∧ Same w4 wr)
      case atStart => exact ⟨0, rfl, rfl, by omega, Mods.refl _ _⟩
      case round =>
        obtain ⟨k, hg, rfl, hk8, hr5⟩ := hrel
        have hm5 := hm34.trans hr5
        have hbk5 := Same.blk hr5 hbk4
        have hnb5 := Same.blk hr5 hnb
        obtain ⟨g0, g1, g2, g3, g4, gf0, gf1, gf2, gf3, gf4, gbl⟩ := LineAt.facts hbk5
        have hcases : k = 0 ∨ k = 1 ∨ k = 2 ∨ k = 3 ∨ k = 4 ∨ k = 5 ∨ k = 6 ∨ k = 7 ∨ k = 8 := by omega
        rcases hcases with rfl | rfl | rfl | rfl | rfl | rfl | rfl | rfl | rfl
        · have n0 : wr.cell? ⟨nb, 0, none⟩ = some (.func (.func 95) #[] #[]) := hnb5.cell 0
          go_wp2_with fail
          refine (hTX 95 (by simp) wr hm5).mono ?_
          rintro e w6 ⟨rfl, hm6⟩
          clear n0 g0 g1 g2 g3 g4 gf0 gf1 gf2 gf3 gf4 gbl
          go_wp2
          go_roundg 7
          case measure => omega
          case rel => exact ⟨1, rfl, rfl, by omega, (hr5.trans hm6).alloc _⟩
        · have n0 : wr.cell? ⟨nb, 1, none⟩ = some (.func (.func 96) #[] #[]) := hnb5.cell 1
          go_wp2_with fail
          refine (hTX 96 (by simp) wr hm5).mono ?_
          rintro e w6 ⟨rfl, hm6⟩
          clear n0 g0 g1 g2 g3 g4 gf0 gf1 gf2 gf3 gf4 gbl
          go_wp2
          go_roundg 6
          case measure => omega
          case rel => exact ⟨2, rfl, rfl, by omega, (hr5.trans hm6).alloc _⟩
        · have n0 : wr.cell? ⟨nb, 2, none⟩ = some (.func (.func 97) #[] #[]) := hnb5.cell 2
          go_wp2_with fail
          refine (hTX 97 (by simp) wr hm5).mono ?_
          rintro e w6 ⟨rfl, hm6⟩
          clear n0 g0 g1 g2 g3 g4 gf0 gf1 gf2 gf3 gf4 gbl
          go_wp2
          go_roundg 5
          case measure => omega
          case rel => exact ⟨3, rfl, rfl, by omega, (hr5.trans hm6).alloc _⟩
        · have n0 : wr.cell? ⟨nb, 3, none⟩ = some (.func (.func 98) #[] #[]) := hnb5.cell 3
          go_wp2_with fail
          refine (hTX 98 (by simp) wr hm5).mono ?_
          rintro e w6 ⟨rfl, hm6⟩
          clear n0 g0 g1 g2 g3 g4 gf0 gf1 gf2 gf3 gf4 gbl
          go_wp2
          go_roundg 4
          case measure => omega
          case rel => exact ⟨4, rfl, rfl, by omega, (hr5.trans hm6).alloc _⟩
        · have n0 : wr.cell? ⟨nb, 4, none⟩ = some (.func (.func 99) #[] #[]) := hnb5.cell 4
          go_wp2_with fail
          refine (hTX 99 (by simp) wr hm5).mono ?_
          rintro e w6 ⟨rfl, hm6⟩
          clear n0 g0 g1 g2 g3 g4 gf0 gf1 gf2 gf3 gf4 gbl
          go_wp2
          go_roundg 3
          case measure => omega
          case rel => exact ⟨5, rfl, rfl, by omega, (hr5.trans hm6).alloc _⟩
        · have n0 : wr.cell? ⟨nb, 5, none⟩ = some (.func (.func 100) #[] #[]) := hnb5.cell 5
          go_wp2_with fail
          refine (hTX 100 (by simp) wr hm5).mono ?_
          rintro e w6 ⟨rfl, hm6⟩
          clear n0 g0 g1 g2 g3 g4 gf0 gf1 gf2 gf3 gf4 gbl
          go_wp2
          go_roundg 2
          case measure => omega
          case rel => exact ⟨6, rfl, rfl, by omega, (hr5.trans hm6).alloc _⟩
        · have n0 : wr.cell? ⟨nb, 6, none⟩ = some (.func (.func 101) #[] #[]) := hnb5.cell 6
          go_wp2_with fail
          refine (hTX 101 (by simp) wr hm5).mono ?_
          rintro e w6 ⟨rfl, hm6⟩
          clear n0 g0 g1 g2 g3 g4 gf0 gf1 gf2 gf3 gf4 gbl
          go_wp2
          go_roundg 1
          case measure => omega
          case rel => exact ⟨7, rfl, rfl, by omega, (hr5.trans hm6).alloc _⟩
        · have n0 : wr.cell? ⟨nb, 7, none⟩ = some (.func (.func 102) #[] #[]) := hnb5.cell 7
          go_wp2_with fail
          refine (hTX 102 (by simp) wr hm5).mono ?_
          rintro e w6 ⟨rfl, hm6⟩
          clear n0 g0 g1 g2 g3 g4 gf0 gf1 gf2 gf3 gf4 gbl
          go_wp2
          go_roundg 0
          case measure => omega
          case rel => exact ⟨8, rfl, rfl, by omega, (hr5.trans hm6).alloc _⟩
        · have h5 := hx0.same hm5
          have hO5 := hOx.keep hm5 (fun x => x)
          have HLT := Lib.hid hlts
          have HMX := Lib.hid (hMx.then hm5 (fun _ _ x => absurd x (fun x => x)))
          clear hTX hN
          go_wp2_with fail
          refine (newPara_cont bp g 1 cap { p with depth := 0 } L bb gt ct m xs 0 text 0 nl wr h5 rfl (by omega) (by omega) hs hO5 hp2 hm0 hm6).mono ?_
          rintro e w6 ⟨rfl, hmN, gt', ct', hPN, hgt⟩
          go_wp2
          try rw [Exit.noGoto_normal]
          go_end0
          refine ⟨rfl, ?_, gt', ct', hPN, ?_⟩
          · exact (HMX.out.mono (fun _ _ h => Or.inl h)).then (hmN.mono (S' := fun k => k = bp ∨ k = g ∨ k = bb ∨ k = gt) (fun _ _ h => Or.inr h)) (fun _ _ h => h)
          · rcases hgt with h | h
            · exact Or.inl h
            · right
              have := HMX.out.size
              omega
end Go.Proofs.YtdnlfdppjfjncaaGreatDoor

/- Lines joined by line feeds: the text of a paragraph; the plain facts that the parser's loop wants. -/
namespace Go.Proofs.YtdnlfdppjfjncaaGreatDoor
open Go Go.RowKit Go.Proofs

def joinT (ls : List ByteArray) : ByteArray := ⟨(Lib.join (ls.map (fun l => l.data.toList)) [10]).toArray⟩

theorem joinT_list (ls : List ByteArray) : (joinT ls).data.toList = Lib.join (ls.map (fun l => l.data.toList)) [10] := by simp [joinT]
theorem joinT_one (l : ByteArray) : joinT [l] = l := by
  apply ByteArray.ext
  simp [joinT, Lib.join_one]
theorem tail_cons (y : List UInt8) (r : List (List UInt8)) : Lib.joinTail [10] (y :: r) = 10 :: (y ++ Lib.joinTail [10] r) := by simp [Lib.joinTail]
theorem joinT_cons2 (l y : ByteArray) (r : List ByteArray) : (joinT (l :: y :: r)).data.toList = l.data.toList ++ 10 :: (joinT (y :: r)).data.toList := by
  rw [joinT_list, joinT_list, List.map_cons, List.map_cons, Lib.join_cons, Lib.join_cons, tail_cons]
theorem size_list (s : ByteArray) : s.size = s.data.toList.length := rfl
theorem joinT_size2 (l y : ByteArray) (r : List ByteArray) : (joinT (l :: y :: r)).size = l.size + 1 + (joinT (y :: r)).size := by
  rw [size_list, joinT_cons2, List.length_append, List.length_cons, size_list, size_list]
  omega

theorem joinT_mem : ∀ (ls : List ByteArray) (c : UInt8), c ∈ (joinT ls).data.toList → c = 10 ∨ ∃ l ∈ ls, c ∈ l.data.toList
  | [], c, h => by simp [joinT, Lib.join_nil] at h
  | [l], c, h => by rw [joinT_one] at h; exact Or.inr ⟨l, by simp, h⟩
  | l :: y :: r, c, h => by
    rw [joinT_cons2, List.mem_append, List.mem_cons] at h
    rcases h with h | h | h
    · exact Or.inr ⟨l, by simp, h⟩
    · exact Or.inl h
    · rcases joinT_mem (y :: r) c h with h | ⟨x, hx, h⟩
      · exact Or.inl h
      · exact Or.inr ⟨x, List.mem_cons_of_mem _ hx, h⟩

theorem get_mem {s : ByteArray} {i : Nat} (hi : i < s.size) : s[i] ∈ s.data.toList := by
  have h : i < s.data.toList.length := hi
  exact List.getElem_mem h
theorem mem_get {s : ByteArray} {c : UInt8} (h : c ∈ s.data.toList) : ∃ i, ∃ hi : i < s.size, s[i] = c := by
  obtain ⟨i, hi, rfl⟩ := List.getElem_of_mem h
  exact ⟨i, hi, rfl⟩

theorem fst1_at (s : ByteArray) (c : UInt8) (k : Nat) (hk : k < s.size) (hc : s[k] = c) : ∀ (n i : Nat), k - i = n → i ≤ k → (∀ j (hj : j < s.size), i ≤ j → j < k → s[j] ≠ c) → fst1 s c i = k
  | 0, i, hn, hi, _ => by
    have : i = k := by omega
    subst this
    rw [fst1, dif_pos hk, if_pos hc]
  | n + 1, i, hn, hi, h => by
    have hlt : i < s.size := by omega
    rw [fst1, dif_pos hlt, if_neg (h i hlt (Nat.le_refl _) (by omega))]
    exact fst1_at s c k hk hc n (i + 1) (by omega) (by omega) (fun j hj h1 h2 => h j hj (by omega) h2)

theorem list_get {s : ByteArray} {i : Nat} (hi : i < s.size) : s.data.toList[i]? = some s[i] := by
  have h : i < s.data.toList.length := hi
  rw [List.getElem?_eq_getElem h]; rfl

theorem idx_first {l y : ByteArray} {r : List ByteArray} (h10 : ∀ i (hi : i < l.size), l[i] ≠ 10) : idx1 (joinT (l :: y :: r)) 10 = (l.size : Int) := by
  have hsz := joinT_size2 l y r
  have hlt : l.size < (joinT (l :: y :: r)).size := by omega
  have hk : (joinT (l :: y :: r))[l.size] = 10 := by
    have hg := list_get hlt
    rw [joinT_cons2, List.getElem?_append_right (by rw [← size_list]; exact Nat.le_refl _), ← size_list, Nat.sub_self] at hg
    simpa using hg.symm
  have hf : fst1 (joinT (l :: y :: r)) 10 0 = l.size := by
    refine fst1_at _ 10 l.size hlt hk _ 0 rfl (Nat.zero_le _) (fun j hj _ hjl => ?_)
    have hg := list_get hj
    rw [joinT_cons2, List.getElem?_append_left (by rw [← size_list]; exact hjl), list_get hjl] at hg
    rw [← Option.some.inj hg]
    exact h10 j hjl
  unfold idx1
  rw [hf, if_pos hlt]

theorem ext_first (l y : ByteArray) (r : List ByteArray) : (joinT (l :: y :: r)).extract 0 l.size = l := by
  apply ByteArray.ext
  apply Array.ext'
  rw [Lib.extract_data, joinT_cons2, List.drop_zero, Nat.sub_zero, size_list, List.take_left']
  rfl
theorem ext_rest (l y : ByteArray) (r : List ByteArray) : (joinT (l :: y :: r)).extract (l.size + 1) (joinT (l :: y :: r)).size = joinT (y :: r) := by
  apply ByteArray.ext
  apply Array.ext'
  rw [Lib.extract_data, joinT_size2, joinT_cons2]
  have h1 : (l.data.toList ++ 10 :: (joinT (y :: r)).data.toList).drop (l.size + 1) = (joinT (y :: r)).data.toList := by
    rw [size_list, ← List.drop_drop, List.drop_left']
    · rfl
    · rfl
  rw [h1, show l.size + 1 + (joinT (y :: r)).size - (l.size + 1) = (joinT (y :: r)).size by omega, size_list, List.take_length]

/-- A line that goes on with a paragraph. -/
structure Goes (text : ByteArray) : Prop extends Plain text 0 where
  c61 : ((at0 text (p3 text 0)).toNat : Int) ≠ 61

theorem triesNo_cont (bp g cap : Nat) (p : PSt) (L : List OB) (bb gt ct m : Nat) (xs : List ByteArray) (text : ByteArray) (nl : Int) (w : World) (h : ParaL w bp g 1 cap p L bb gt ct m xs) (hd : p.depth = (0 : Nat))
    (T : Nat) (v : Value) (o : OB) (ho : L[0]? = some o) (hob : o.b = .iface T v) (hT4 : T ≠ 242) (hT : Txt text) (hP : Goes text) : TriesNo w bp 0 text nl := by
  intro f hf W hW
  have h1 := h.same hW
  have hc0 : W.cell? ⟨g, 0 * 4, none⟩ = some (.iface T v) := h1.cell 0 0 o ho (by omega) _ (by rw [← hob]; rfl)
  simp only [List.mem_cons, List.not_mem_nil, or_false] at hf
  rcases hf with rfl | rfl | rfl | rfl | rfl | rfl | rfl | rfl
  · exact newQuote_no _ text 0 nl W (Nat.zero_le _) hT hP.c62
  · exact newATX_no _ text 0 nl W (Nat.zero_le _) hT hP.c35
  · exact newSetext_cont bp g 1 cap p bb text 0 nl W h1.inPara 0 hd rfl (Nat.zero_le _) hT hP.c45 hP.c61
  · exact newHR_no _ text 0 nl W (Nat.zero_le _) hT hP.c45 hP.c95 hP.c42
  · exact newListItem_no bp g 2 cap none p T 0 v text 0 nl W h1.at_ h1.stack hd (by omega) (by omega) hc0 hT4 (Nat.zero_le _) hT hP.item
  · exact newHTML_no _ text 0 nl W (Nat.zero_le _) hT hP.c60
  · exact newFence_no _ text 0 nl W (Nat.zero_le _) hT hP.c96 hP.c126
  · exact newPre_cont bp g 1 cap p bb text 0 nl W h1.inPara

/-- The text of a paragraph: its lines. -/
structure ParaText (ls : List ByteArray) : Prop where
  ne : ls ≠ []
  small : (joinT ls).size ≤ 900000
  count : ls.length ≤ 50000
  pos : ∀ l ∈ ls, 0 < l.size
  first : ∀ l ∈ ls, ∀ h : 0 < l.size, isW l[0] = false
  no0 : ∀ l ∈ ls, ∀ i (hi : i < l.size), l[i] ≠ 0
  no10 : ∀ l ∈ ls, ∀ i (hi : i < l.size), l[i] ≠ 10
  no13 : ∀ l ∈ ls, ∀ i (hi : i < l.size), l[i] ≠ 13
  no9 : ∀ l ∈ ls, ∀ i (hi : i < l.size), l[i] ≠ 9
  last : ∀ h : 0 < (joinT ls).size, isW ((joinT ls)[(joinT ls).size - 1]'(by omega)) = false
  no91 : ∀ l r, ls = l :: r → ∀ h : 0 < l.size, l[0] ≠ 91
  begins : ∀ l r, ls = l :: r → Begins l 0
  goes : ∀ l r, ls = l :: r → ∀ x ∈ r, Goes x

theorem joinT_le : ∀ (ls : List ByteArray) (l : ByteArray), l ∈ ls → l.size ≤ (joinT ls).size
  | [x], l, h => by simp at h; subst h; rw [joinT_one]; exact Nat.le_refl _
  | x :: y :: r, l, h => by
    rw [joinT_size2]
    rcases List.mem_cons.1 h with rfl | h
    · omega
    · have := joinT_le (y :: r) l h; omega

theorem joinT_drop_le : ∀ (ls : List ByteArray) (j : Nat), (joinT (ls.drop j)).size ≤ (joinT ls).size
  | ls, 0 => Nat.le_refl _
  | [], j + 1 => by simp
  | [x], j + 1 => by
    rw [List.drop_succ_cons, List.drop_nil]
    have h : (joinT []).size = 0 := rfl
    omega
  | x :: y :: r, j + 1 => by
    have := joinT_drop_le (y :: r) j
    rw [joinT_size2, List.drop_succ_cons]
    omega

theorem joinT_first {l : ByteArray} {r : List ByteArray} (h : 0 < l.size) : ∃ h' : 0 < (joinT (l :: r)).size, (joinT (l :: r))[0] = l[0] := by
  cases r with
  | nil => rw [joinT_one]; exact ⟨h, rfl⟩
  | cons y r =>
    have hsz := joinT_size2 l y r
    refine ⟨by omega, ?_⟩
    have hg := list_get (s := joinT (l :: y :: r)) (i := 0) (by omega)
    rw [joinT_cons2, List.getElem?_append_left (by rw [← size_list]; exact h), list_get h] at hg
    exact (Option.some.inj hg).symm
end Go.Proofs.YtdnlfdppjfjncaaGreatDoor
