/- The plain law of FnSeven, and the law's walk. -/
import Derived.Test.YtdnlfdppjfjncaaGreatDoorLawC
namespace Go.Proofs.YtdnlfdppjfjncaaGreatDoor
open Go Go.RowKit Go.Proofs

theorem html_of (s : ByteArray) (w : World) (hs : OneLine s) (hl : ((scan s 0 0).flatMap outPc).length ≤ 9000000) :
    Calls Tryz.prog 17 #[.agg #[.bool false, .bool false, .bool false, .bool false, .bool false, .bool false, .bool false, .bool false, .bool false, .bool false], .string s] w fun e w' => e = .returned (.string (strL (pOpen ++ (scan s 0 0).flatMap outPc ++ pClose))) ∧ Same w w' := by
  have hsm := hs.small
  refine (impl_HTML s w hs ?_ ?_).mono ?_
  · intro i
    have h1 : ((scan s 0 0).take i).flatMap outPc ++ ((scan s 0 0).drop i).flatMap outPc = (scan s 0 0).flatMap outPc := by
      rw [← List.flatMap_append, List.take_append_drop]
    have h2 := congrArg List.length h1
    rw [List.length_append] at h2
    have h3 : pOpen.length = 3 := rfl
    simp only [List.nil_append, List.length_append]
    omega
  · intro u hu
    have := scan_sizes s _ 0 0 rfl u hu
    omega
  · rintro e w' ⟨rfl, hm⟩
    exact ⟨rfl, hm⟩

theorem dull_92 {c : UInt8} (h : dull c = true) : c ≠ 92 := by rintro rfl; revert h; decide

theorem escd_dull (s : ByteArray) : ∀ (pre r : List UInt8) (k : Nat), (∀ c ∈ pre, dull c = true) → from_ s k = pre ++ r → Escd s (k + pre.length) → Escd s k
  | [], _, k, _, _, h => h
  | c :: pre, r, k, hd, hf, h => by
    obtain ⟨h1, e1, h2⟩ := from_cons hf
    rw [Escd, dif_pos h1]
    exact Or.inl ⟨by rw [e1]; exact hd c List.mem_cons_self, escd_dull s pre r (k + 1) (fun x hx => hd x (List.mem_cons_of_mem _ hx)) h2 (by rw [List.length_cons] at h; rwa [show k + 1 + pre.length = k + (pre.length + 1) by omega])⟩

theorem scan_dull (s : ByteArray) (e : Nat) : ∀ (pre r : List UInt8) (k : Nat), (∀ c ∈ pre, dull c = true) → from_ s k = pre ++ r → scan s k e = scan s (k + pre.length) e
  | [], _, k, _, _ => rfl
  | c :: pre, r, k, hd, hf => by
    obtain ⟨h1, e1, h2⟩ := from_cons hf
    have h92 : s[k] ≠ 92 := by rw [e1]; exact dull_92 (hd c List.mem_cons_self)
    rw [scan, dif_pos h1, if_neg h92, scan_dull s e pre r (k + 1) (fun x hx => hd x (List.mem_cons_of_mem _ hx)) h2, List.length_cons, show k + 1 + pre.length = k + (pre.length + 1) by omega]

def marks (n : Nat) : List UInt8 := List.replicate n 35 ++ [32]
theorem marks_len (n : Nat) : (marks n).length = n + 1 := by simp [marks]
theorem marks_dull (n : Nat) : ∀ c ∈ marks n, dull c = true := by
  intro c hc
  simp only [marks, List.mem_append, List.mem_replicate, List.mem_singleton] at hc
  rcases hc with ⟨_, rfl⟩ | rfl <;> decide
theorem marks_esc (n : Nat) : (marks n).flatMap escB = marks n := by
  have : ∀ m, (List.replicate m (35 : UInt8)).flatMap escB = List.replicate m 35 := by
    intro m
    induction m with
    | zero => rfl
    | succ m ih => rw [List.replicate_succ, List.flatMap_cons, ih]; rfl
  unfold marks
  rw [List.flatMap_append, this]
  rfl

def sevenT (n : Nat) (t : ByteArray) : ByteArray := strL (marks n ++ slL t.data.toList)
theorem sevenT_list (n : Nat) (t : ByteArray) : (sevenT n t).data.toList = marks n ++ slL t.data.toList := by simp [sevenT, strL]
theorem sevenT_size (n : Nat) (t : ByteArray) : (sevenT n t).size = n + 1 + (slT t).size := by
  have : (slT t).size = (slL t.data.toList).length := by show (slL t.data.toList).toArray.size = _; simp
  rw [this, sevenT, strL_size, List.length_append, marks_len]

theorem from_app {s : ByteArray} {a b : List UInt8} (h : s.data.toList = a ++ b) : from_ s a.length = b := by
  unfold from_
  rw [h, List.drop_append_of_le_length (Nat.le_refl _), List.drop_length, List.nil_append]

theorem sevenT_line (n : Nat) (t : ByteArray) (hn : 7 ≤ n) (hn2 : n ≤ 1000) (hp : prFrom t 0 = true) (hf : fillOk t = true) (hs : t.size ≤ 400000) : OneLine (sevenT n t) := by
  obtain ⟨h0, hf1, hf2⟩ := fill_first hf
  have hO := oneLine_sl t hp hf hs
  have hsz := sevenT_size n t
  have hs2 := slT_size t
  have hpos : 0 < (sevenT n t).size := by omega
  have hl := sevenT_list n t
  have hget : ∀ i (hi : i < (sevenT n t).size), i < n → (sevenT n t)[i] = 35 := by
    intro i hi hin
    have hg := get_of hi
    rw [hl, List.getElem?_append_left (by rw [marks_len]; omega)] at hg
    unfold marks at hg
    rw [List.getElem?_append_left (by simpa using hin), List.getElem?_replicate, if_pos hin] at hg
    exact (Option.some.inj hg).symm
  have htail : ∀ i (hi : i < (sevenT n t).size) (h2 : n + 1 ≤ i), (sevenT n t)[i] = (slT t)[i - (n + 1)]'(by omega) := by
    intro i hi h2
    have hg := get_of hi
    rw [hl, List.getElem?_append_right (by rw [marks_len]; omega), marks_len, ← slT_list] at hg
    have hg2 := get_of (s := slT t) (i := i - (n + 1)) (by omega)
    rw [hg2] at hg
    exact (Option.some.inj hg).symm
  have hmid : ∀ i (hi : i < (sevenT n t).size), i = n → (sevenT n t)[i] = 32 := by
    intro i hi hin
    have hg := get_of hi
    rw [hl, List.getElem?_append_left (by rw [marks_len]; omega)] at hg
    unfold marks at hg
    rw [List.getElem?_append_right (by simp; omega)] at hg
    subst hin
    simp at hg
    exact hg.symm
  have hn' : ∀ k : UInt8, k ≠ 35 → k ≠ 32 → (∀ i (hi : i < (slT t).size), (slT t)[i] ≠ k) → ∀ i (hi : i < (sevenT n t).size), (sevenT n t)[i] ≠ k := by
    intro k h35 h32 h i hi
    rcases Nat.lt_trichotomy i n with h1 | h1 | h1
    · rw [hget i hi h1]; exact h35.symm
    · rw [hmid i hi h1]; exact h32.symm
    · rw [htail i hi h1]; exact h _ _
  have hd35 : ∀ i, i < n → at0 (sevenT n t) i = 35 := fun i hi => by rw [at0_eq (by omega), hget i (by omega) hi]
  have hp3 : p3 (sevenT n t) 0 = 0 := by
    unfold p3 lead
    rw [dif_pos hpos, if_neg (by rw [hget 0 hpos (by omega)]; decide)]
  refine ⟨hpos, by omega, ?_, ?_, hn' 0 (by decide) (by decide) hO.no0, hn' 10 (by decide) (by decide) hO.no10, hn' 13 (by decide) (by decide) hO.no13, ?_, hn' 9 (by decide) (by decide) hO.no9, ?_, ?_⟩
  · rw [hget 0 hpos (by omega)]; rfl
  · rw [htail _ (by omega) (by omega)]
    have := hO.last
    simpa only [show (sevenT n t).size - 1 - (n + 1) = (slT t).size - 1 by omega] using this
  · rw [hget 0 hpos (by omega)]; decide
  · right
    intro u hu
    rw [hp3, Nat.zero_add]
    exact hd35 u (by omega)
  · refine escd_dull _ (marks n) (slL t.data.toList) 0 (marks_dull n) (by rw [from_zero, hl]) ?_
    rw [Nat.zero_add]
    exact escd_sl _ t.data.toList _ (by rw [marks_len]; omega) (pr_list hp) (from_app hl)

theorem sevenT_scan (n : Nat) (t : ByteArray) (hp : prFrom t 0 = true) : (scan (sevenT n t) 0 0).flatMap outPc = marks n ++ t.data.toList.flatMap escB := by
  have hl := sevenT_list n t
  have hsz := sevenT_size n t
  rw [scan_dull (sevenT n t) 0 (marks n) (slL t.data.toList) 0 (marks_dull n) (by rw [from_zero, hl]), Nat.zero_add,
    scan_sl _ t.data.toList _ 0 (Nat.zero_le _) (by rw [marks_len]; omega) (pr_list hp) (from_app hl), ext_list, hl, List.drop_zero, Nat.sub_zero, List.take_left', marks_esc]
  rfl
end Go.Proofs.YtdnlfdppjfjncaaGreatDoor
