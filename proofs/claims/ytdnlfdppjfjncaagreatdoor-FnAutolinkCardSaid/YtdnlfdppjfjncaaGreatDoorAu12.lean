/- Some texts of one proof, put into one file: LawC, LawS, Law7, LawS2, Auto8, Auto9. -/
import Derived.Test.YtdnlfdppjfjncaaGreatDoorAu7
import Derived.Test.YtdnlfdppjfjncaaGreatDoorAu9
import Derived.Test.YtdnlfdppjfjncaaGreatDoorAu11
/- The laws' own functions: times, full, ascii, plain. -/
namespace Go.Proofs.YtdnlfdppjfjncaaGreatDoor
open Go Go.RowKit Go.Proofs

/-- A text n times. -/
def repT (s : ByteArray) (n : Nat) : ByteArray := strL (List.replicate n s.data.toList).flatten

theorem repT_succ (s : ByteArray) (n : Nat) : repT s (n + 1) = repT s n ++ s := by
  unfold repT
  rw [List.replicate_succ', List.flatten_append, ← strL_app]
  have : strL (List.flatten [s.data.toList]) = s := by simp [strL]
  rw [this]
theorem repT_size (s : ByteArray) : ∀ n, (repT s n).size = n * s.size
  | 0 => by simp [repT, strL_size]
  | n + 1 => by rw [repT_succ, ByteArray.size_append, repT_size s n, Nat.succ_mul]

set_option maxHeartbeats 4000000 in
theorem times_any (s : ByteArray) (n : Nat) (w : World) (hs : s.size ≤ 100) (hn : n ≤ 1000) :
    Calls Tryz.prog 23 #[.string s, .int .i64 n] w fun e w' => e = .returned (.string (repT s n)) ∧ w = w' := by
  have h0 : repT s 0 = (⟨#[]⟩ : ByteArray) := rfl
  have H0 := Lib.hid h0
  clear h0
  go_enter Tryz.func23, Tryz.ntmps23
  go_wp2_with fail
  go_loopg [5, 7] n (fun k o i wr => ∃ j : Nat, o = .string (repT s j) ∧ i = .int .i64 j ∧ k = n - j ∧ j ≤ n ∧ w = wr)
  case atStart => exact ⟨0, by rw [H0.out], rfl, rfl, Nat.zero_le _, rfl⟩
  case round =>
    obtain ⟨j, rfl, rfl, rfl, hj, rfl⟩ := hrel
    have hz : (repT s j).size ≤ 100000 := by
      rw [repT_size]
      exact Nat.le_trans (Nat.mul_le_mul hj hs) (by omega)
    by_cases hlt : j < n
    · have w1 : (j : Int) < n := by omega
      have w3 : IntKind.i64.wrap ((j : Int) + 1) = (j : Int) + 1 := IntWalk.i64_in _ (by omega)
      have HS := Lib.hid (repT_succ s j)
      go_wp2_with fail
      go_roundg (n - (j + 1))
      case measure => omega
      case rel => exact ⟨j + 1, by rw [HS.out], rfl, rfl, by omega, rfl⟩
    · have w1 : ¬ ((j : Int) < n) := by omega
      have hjn : j = n := by omega
      subst hjn
      go_wp2_with fail
      go_ret
      exact ⟨rfl, rfl⟩

set_option maxHeartbeats 4000000 in
theorem full_any (s : ByteArray) (w : World) (hs : s.size ≤ 2147483647) :
    Calls Tryz.prog 30 #[.string s] w fun e w' => e = .returned (.bool (fillOk s)) ∧ w = w' := by
  by_cases h : 0 < s.size
  · have hf : fillOk s = ((!((s[0].toNat : Int) == 32)) && (!(((s[s.size - 1]'(by omega)).toNat : Int) == 32))) := by unfold fillOk; rw [dif_pos h]
    have HF := Lib.hid hf
    clear hf
    have e0 : s.toList.isEmpty = false := bs_ne h
    have e0' : (!s.toList.isEmpty) = true := by rw [e0]; rfl
    have w1 : (0 : Int) < s.size := by omega
    have w2 : IntKind.i64.wrap ((s.size : Int) - 1) = (s.size : Int) - 1 := IntWalk.i64_in _ (by omega)
    have w3 : (0 : Int) ≤ (s.size : Int) - 1 := by omega
    have w4 : ((s.size : Int) - 1).toNat = s.size - 1 := by omega
    have w5 : (s.size : Int) - 1 < s.size := by omega
    go_enter Tryz.func30, Tryz.ntmps30
    go_wp2_with fail
    all_goals
      go_ret
      refine ⟨congrArg (fun b => Ending.returned (.bool b)) ?_, rfl⟩
      rw [HF.out]
      first | rfl | simp_all
  · have hf : fillOk s = false := by unfold fillOk; rw [dif_neg h]
    have hz : s = ⟨#[]⟩ := by
      apply ByteArray.ext_getElem
      · show s.size = 0; omega
      · intro i h1 h2; omega
    subst hz
    have HF := Lib.hid hf
    clear hf
    go_enter Tryz.func30, Tryz.ntmps30
    go_wp2_with fail
    go_ret
    exact ⟨by rw [HF.out]; rfl, rfl⟩

set_option maxHeartbeats 4000000 in
theorem ascii_any (s : ByteArray) (w : World) (hs : s.size ≤ 2147483647) :
    Calls Tryz.prog 22 #[.string s, .bool false] w fun e w' => e = .returned (.bool (prFrom s 0)) ∧ w = w' := by
  go_enter Tryz.func22, Tryz.ntmps22
  go_wp2_with fail
  go_loopg [5] s.size (fun k v wr => ∃ i : Nat, v = .int .i64 i ∧ k = s.size - i ∧ i ≤ s.size ∧ prFrom s i = prFrom s 0 ∧ w = wr)
  case atStart => exact ⟨0, rfl, rfl, Nat.zero_le _, rfl, rfl⟩
  case round =>
    obtain ⟨i, rfl, rfl, hi, hp, rfl⟩ := hrel
    have HP := Lib.hid hp
    clear hp
    by_cases hlt : i < s.size
    · have w1 : (i : Int) < s.size := by omega
      have w2 : (0 : Int) ≤ i := by omega
      have w3 : IntKind.i64.wrap ((i : Int) + 1) = (i : Int) + 1 := IntWalk.i64_in _ (by omega)
      have hun : prFrom s i = (32 ≤ s[i].toNat && s[i].toNat ≤ 126 && prFrom s (i + 1)) := by rw [prFrom, dif_pos hlt]
      have HU := Lib.hid hun
      clear hun
      by_cases hc : 32 ≤ s[i].toNat ∧ s[i].toNat ≤ 126
      · have c1 : ¬ ((s[i].toNat : Int) < 32) := by omega
        have c2 : ¬ ((126 : Int) < s[i].toNat) := by omega
        have Hc := Lib.hid hc
        clear hc
        go_wp2_with fail
        go_roundg (s.size - (i + 1))
        case measure => omega
        case rel => exact ⟨i + 1, by simp, rfl, by omega, by rw [← HP.out, HU.out]; simp [Hc.out.1, Hc.out.2], rfl⟩
      · have hf : prFrom s 0 = false := by
          rw [← HP.out, HU.out]
          by_cases h1 : 32 ≤ s[i].toNat
          · have : ¬ s[i].toNat ≤ 126 := fun h => hc ⟨h1, h⟩
            simp [this]
          · simp [h1]
        have HF := Lib.hid hf
        by_cases h1 : (s[i].toNat : Int) < 32
        · clear hc hf
          go_wp2_with fail
          go_ret
          exact ⟨by rw [HF.out]; rfl, rfl⟩
        · have h2 : (126 : Int) < s[i].toNat := by omega
          clear hc hf
          go_wp2_with fail
          go_ret
          exact ⟨by rw [HF.out]; rfl, rfl⟩
    · have hin : i = s.size := by omega
      have w1 : ¬ ((i : Int) < s.size) := by omega
      have ht : prFrom s 0 = true := by rw [← HP.out, hin, prFrom, dif_neg (Nat.lt_irrefl _)]
      have HT := Lib.hid ht
      clear ht
      go_wp2_with fail
      go_ret
      exact ⟨by rw [HT.out]; rfl, rfl⟩

theorem plain_any (w : World) :
    Calls Tryz.prog 25 #[] w fun e w' => e = .returned (.agg #[.bool false, .bool false, .bool false, .bool false, .bool false, .bool false, .bool false, .bool false, .bool false, .bool false]) ∧ Same w w' := by
  go_enter Tryz.func25, Tryz.ntmps25
  go_wp2_with fail
  refine bodyPost_ret (v := .agg #[.bool false, .bool false, .bool false, .bool false, .bool false, .bool false, .bool false, .bool false, .bool false, .bool false]) (by simp [results, Tryz.results25, go_sem]) rfl ⟨rfl, ?_⟩
  exact (Mods.refl _ w).alloc _
end Go.Proofs.YtdnlfdppjfjncaaGreatDoor

/- The plain law of FnSeven, and the law's walk. -/
namespace Go.Proofs.YtdnlfdppjfjncaaGreatDoor
open Go Go.RowKit Go.Proofs

theorem html_of (s : ByteArray) (w : World) (hs : OneLine s) (he : Escd s 0) (hl : ((scan s 0 0).flatMap outPc).length ≤ 9000000) :
    Calls Tryz.prog 17 #[.agg #[.bool false, .bool false, .bool false, .bool false, .bool false, .bool false, .bool false, .bool false, .bool false, .bool false], .string s] w fun e w' => e = .returned (.string (strL (pOpen ++ (scan s 0 0).flatMap outPc ++ pClose))) ∧ Same w w' := by
  have hsm := hs.small
  refine (impl_HTML s w hs (scan s 0 0) (plan_escd s (by omega) he) ?_ ?_ (scan_no_auto s _ 0 0 rfl)).mono ?_
  · intro i
    have h1 : ((scan s 0 0).take i).flatMap outPc ++ ((scan s 0 0).drop i).flatMap outPc = (scan s 0 0).flatMap outPc := by
      rw [← List.flatMap_append, List.take_append_drop]
    have h2 := congrArg List.length h1
    rw [List.length_append] at h2
    have h3 : pOpen.length = 3 := rfl
    simp only [List.nil_append, List.length_append]
    omega
  · intro u hu
    have := plan_sizes (by omega) he u hu
    omega
  · rintro e w' ⟨rfl, hm⟩
    exact ⟨rfl, hm⟩

theorem dull_92 {c : UInt8} (h : dull c = true) : c ≠ 92 := by rintro rfl; revert h; decide

theorem escd_dull (s : ByteArray) : ∀ (pre r : List UInt8) (k : Nat), (∀ c ∈ pre, dull c = true) → from_ s k = pre ++ r → Escd s (k + pre.length) → Escd s k
  | [], _, k, _, _, h => h
  | c :: pre, r, k, hd, hf, h => by
    obtain ⟨h1, e1, h2⟩ := from_cons hf
    rw [Escd, dif_pos h1]
    exact Or.inl ⟨by rw [e1]; exact hd c List.mem_cons_self, escd_dull s pre r (k + 1) (fun x hx => hd x (List.mem_cons_of_mem _ hx)) h2 (by rw [List.length_cons] at h; rwa [show k + 1 + pre.length = k + (pre.length + 1) by omega])⟩

theorem scan_dull (s : ByteArray) (e : Nat) : ∀ (pre r : List UInt8) (k : Nat), (∀ c ∈ pre, dull c = true) → from_ s k = pre ++ r → scan s k e = scan s (k + pre.length) e
  | [], _, k, _, _ => rfl
  | c :: pre, r, k, hd, hf => by
    obtain ⟨h1, e1, h2⟩ := from_cons hf
    have h92 : s[k] ≠ 92 := by rw [e1]; exact dull_92 (hd c List.mem_cons_self)
    rw [scan, dif_pos h1, if_neg h92, scan_dull s e pre r (k + 1) (fun x hx => hd x (List.mem_cons_of_mem _ hx)) h2, List.length_cons, show k + 1 + pre.length = k + (pre.length + 1) by omega]

def marks (n : Nat) : List UInt8 := List.replicate n 35 ++ [32]
theorem marks_len (n : Nat) : (marks n).length = n + 1 := by simp [marks]
theorem marks_dull (n : Nat) : ∀ c ∈ marks n, dull c = true := by
  intro c hc
  simp only [marks, List.mem_append, List.mem_replicate, List.mem_singleton] at hc
  rcases hc with ⟨_, rfl⟩ | rfl <;> decide
theorem marks_esc (n : Nat) : (marks n).flatMap escB = marks n := by
  have : ∀ m, (List.replicate m (35 : UInt8)).flatMap escB = List.replicate m 35 := by
    intro m
    induction m with
    | zero => rfl
    | succ m ih => rw [List.replicate_succ, List.flatMap_cons, ih]; rfl
  unfold marks
  rw [List.flatMap_append, this]
  rfl

def sevenT (n : Nat) (t : ByteArray) : ByteArray := strL (marks n ++ slL t.data.toList)
theorem sevenT_list (n : Nat) (t : ByteArray) : (sevenT n t).data.toList = marks n ++ slL t.data.toList := by simp [sevenT, strL]
theorem sevenT_size (n : Nat) (t : ByteArray) : (sevenT n t).size = n + 1 + (slT t).size := by
  have : (slT t).size = (slL t.data.toList).length := by show (slL t.data.toList).toArray.size = _; simp
  rw [this, sevenT, strL_size, List.length_append, marks_len]

theorem from_app {s : ByteArray} {a b : List UInt8} (h : s.data.toList = a ++ b) : from_ s a.length = b := by
  unfold from_
  rw [h, List.drop_append_of_le_length (Nat.le_refl _), List.drop_length, List.nil_append]

theorem sevenT_line (n : Nat) (t : ByteArray) (hn : 7 ≤ n) (hn2 : n ≤ 1000) (hp : prFrom t 0 = true) (hf : fillOk t = true) (hs : t.size ≤ 400000) : OneLine (sevenT n t) := by
  obtain ⟨h0, hf1, hf2⟩ := fill_first hf
  have hO := oneLine_sl t hp hf hs
  have hsz := sevenT_size n t
  have hs2 := slT_size t
  have hpos : 0 < (sevenT n t).size := by omega
  have hl := sevenT_list n t
  have hget : ∀ i (hi : i < (sevenT n t).size), i < n → (sevenT n t)[i] = 35 := by
    intro i hi hin
    have hg := get_of hi
    rw [hl, List.getElem?_append_left (by rw [marks_len]; omega)] at hg
    unfold marks at hg
    rw [List.getElem?_append_left (by simpa using hin), List.getElem?_replicate, if_pos hin] at hg
    exact (Option.some.inj hg).symm
  have htail : ∀ i (hi : i < (sevenT n t).size) (h2 : n + 1 ≤ i), (sevenT n t)[i] = (slT t)[i - (n + 1)]'(by omega) := by
    intro i hi h2
    have hg := get_of hi
    rw [hl, List.getElem?_append_right (by rw [marks_len]; omega), marks_len, ← slT_list] at hg
    have hg2 := get_of (s := slT t) (i := i - (n + 1)) (by omega)
    rw [hg2] at hg
    exact (Option.some.inj hg).symm
  have hmid : ∀ i (hi : i < (sevenT n t).size), i = n → (sevenT n t)[i] = 32 := by
    intro i hi hin
    have hg := get_of hi
    rw [hl, List.getElem?_append_left (by rw [marks_len]; omega)] at hg
    unfold marks at hg
    rw [List.getElem?_append_right (by simp; omega)] at hg
    subst hin
    simp at hg
    exact hg.symm
  have hn' : ∀ k : UInt8, k ≠ 35 → k ≠ 32 → (∀ i (hi : i < (slT t).size), (slT t)[i] ≠ k) → ∀ i (hi : i < (sevenT n t).size), (sevenT n t)[i] ≠ k := by
    intro k h35 h32 h i hi
    rcases Nat.lt_trichotomy i n with h1 | h1 | h1
    · rw [hget i hi h1]; exact h35.symm
    · rw [hmid i hi h1]; exact h32.symm
    · rw [htail i hi h1]; exact h _ _
  have hd35 : ∀ i, i < n → at0 (sevenT n t) i = 35 := fun i hi => by rw [at0_eq (by omega), hget i (by omega) hi]
  have hp3 : p3 (sevenT n t) 0 = 0 := by
    unfold p3 lead
    rw [dif_pos hpos, if_neg (by rw [hget 0 hpos (by omega)]; decide)]
  refine ⟨hpos, by omega, ?_, ?_, hn' 0 (by decide) (by decide) hO.no0, hn' 10 (by decide) (by decide) hO.no10, hn' 13 (by decide) (by decide) hO.no13, ?_, hn' 9 (by decide) (by decide) hO.no9, ?_⟩
  · rw [hget 0 hpos (by omega)]; rfl
  · rw [htail _ (by omega) (by omega)]
    have := hO.last
    simpa only [show (sevenT n t).size - 1 - (n + 1) = (slT t).size - 1 by omega] using this
  · rw [hget 0 hpos (by omega)]; decide
  · right
    intro u hu
    rw [hp3, Nat.zero_add]
    exact hd35 u (by omega)

theorem sevenT_escd (n : Nat) (t : ByteArray) (hp : prFrom t 0 = true) : Escd (sevenT n t) 0 := by
  have hl := sevenT_list n t
  have hsz := sevenT_size n t
  refine escd_dull _ (marks n) (slL t.data.toList) 0 (marks_dull n) (by rw [from_zero, hl]) ?_
  rw [Nat.zero_add]
  exact escd_sl _ t.data.toList _ (by rw [marks_len]; omega) (pr_list hp) (from_app hl)

theorem sevenT_scan (n : Nat) (t : ByteArray) (hp : prFrom t 0 = true) : (scan (sevenT n t) 0 0).flatMap outPc = marks n ++ t.data.toList.flatMap escB := by
  have hl := sevenT_list n t
  have hsz := sevenT_size n t
  rw [scan_dull (sevenT n t) 0 (marks n) (slL t.data.toList) 0 (marks_dull n) (by rw [from_zero, hl]), Nat.zero_add,
    scan_sl _ t.data.toList _ 0 (Nat.zero_le _) (by rw [marks_len]; omega) (pr_list hp) (from_app hl), ext_list, hl, List.drop_zero, Nat.sub_zero, List.take_left', marks_esc]
  rfl
end Go.Proofs.YtdnlfdppjfjncaaGreatDoor

/- FnEscaped answers true. -/
namespace Go.Proofs.YtdnlfdppjfjncaaGreatDoor
open Go Go.RowKit Go.Proofs

theorem paraT_app (t : ByteArray) : (⟨#[60, 112, 62]⟩ : ByteArray) ++ strL (t.data.toList.flatMap escB) ++ (⟨#[60, 47, 112, 62, 10]⟩ : ByteArray) = paraT (htmlT t) := by
  apply ByteArray.ext
  simp [strL, paraT, htmlT, pOpen, pClose]

set_option maxHeartbeats 4000000 in
theorem law_escaped (s : ByteArray) (w : World) :
    Calls Tryz.prog 4 #[.string s] w fun e w' => e = .returned (.bool true) ∧ Same w w' := by
  by_cases hbig : 2147483647 < s.size
  · have w0 : (2147483647 : Int) < s.size := by omega
    go_enter Tryz.func4, Tryz.ntmps4
    go_wp2_with fail
    go_ret
    exact ⟨rfl, Mods.refl _ _⟩
  · have w0 : ¬ (2147483647 : Int) < s.size := by omega
    by_cases hp : (decide (s.size ≤ 200) && prFrom s 0) = true
    · have hs : s.size ≤ 200 := by simp at hp; exact hp.1
      have hpr : prFrom s 0 = true := by simp at hp; exact hp.2
      by_cases hf : fillOk s = true
      · have hlen := escB_len s.data.toList
        have hsz := strL_size (s.data.toList.flatMap escB)
        have e1 : s.data.toList.length = s.size := rfl
        have hb : (strL (s.data.toList.flatMap escB)).size ≤ 1200 := by omega
        clear hlen hsz e1
        have HPT := Lib.hid (paraT_app s)
        go_enter Tryz.func4, Tryz.ntmps4
        go_wp2_with fail
        refine (printable_any s 200 w (by omega)).mono ?_
        rintro e w' ⟨rfl, rfl⟩
        rw [hp]
        go_wp2_with fail
        refine (filled_any s w (by omega)).mono ?_
        rintro e w' ⟨rfl, rfl⟩
        rw [hf]
        go_wp2_with fail
        refine (escaped_any s w (by omega)).mono ?_
        rintro e w1 ⟨rfl, hm1⟩
        go_wp2_with fail
        refine (escaped_html s w1 hpr hf (by omega)).mono ?_
        rintro e w2 ⟨rfl, hm2⟩
        go_wp2_with fail
        refine (EscapeHTML_any s w2 (by omega)).mono ?_
        rintro e w' ⟨rfl, rfl⟩
        clear hp hf hpr
        go_wp2_with fail
        go_ret
        refine ⟨congrArg (fun b => Ending.returned (.bool b)) ?_, hm1.trans hm2⟩
        rw [HPT.out]
        simp
      · have hf' : fillOk s = false := by simpa using hf
        go_enter Tryz.func4, Tryz.ntmps4
        go_wp2_with fail
        refine (printable_any s 200 w (by omega)).mono ?_
        rintro e w' ⟨rfl, rfl⟩
        rw [hp]
        go_wp2_with fail
        refine (filled_any s w (by omega)).mono ?_
        rintro e w' ⟨rfl, rfl⟩
        rw [hf']
        go_wp2_with fail
        go_ret
        exact ⟨rfl, Mods.refl _ _⟩
    · have hp' : (decide (s.size ≤ 200) && prFrom s 0) = false := by simpa using hp
      go_enter Tryz.func4, Tryz.ntmps4
      go_wp2_with fail
      refine (printable_any s 200 w (by omega)).mono ?_
      rintro e w' ⟨rfl, rfl⟩
      rw [hp']
      go_wp2_with fail
      go_ret
      exact ⟨rfl, Mods.refl _ _⟩
end Go.Proofs.YtdnlfdppjfjncaaGreatDoor

/- FnSeven answers true. -/
namespace Go.Proofs.YtdnlfdppjfjncaaGreatDoor
open Go Go.RowKit Go.Proofs

theorem seven_text (n : Nat) (t : ByteArray) : repT ⟨#[35]⟩ n ++ (⟨#[32]⟩ : ByteArray) ++ slT t = sevenT n t := by
  have h : ∀ n, (List.replicate n [(35 : UInt8)]).flatten = List.replicate n 35 := by
    intro n
    induction n with
    | zero => rfl
    | succ n ih => rw [List.replicate_succ, List.flatten_cons, ih]; rfl
  apply ByteArray.ext
  simp [repT, sevenT, strL, slT, marks, h]

theorem seven_want (n : Nat) (t : ByteArray) : (⟨#[60, 112, 62]⟩ : ByteArray) ++ repT ⟨#[35]⟩ n ++ (⟨#[32]⟩ : ByteArray) ++ strL (t.data.toList.flatMap escB) ++ (⟨#[60, 47, 112, 62, 10]⟩ : ByteArray) = strL (pOpen ++ (marks n ++ t.data.toList.flatMap escB) ++ pClose) := by
  have h : ∀ n, (List.replicate n [(35 : UInt8)]).flatten = List.replicate n 35 := by
    intro n
    induction n with
    | zero => rfl
    | succ n ih => rw [List.replicate_succ, List.flatten_cons, ih]; rfl
  apply ByteArray.ext
  simp [repT, strL, marks, h, pOpen, pClose]

set_option maxRecDepth 100000 in
set_option maxHeartbeats 4000000 in
theorem law_seven (m : Nat) (hm : m < 256) (s : ByteArray) (w : World) :
    Calls Tryz.prog 11 #[.int .u8 m, .string s] w fun e w' => e = .returned (.bool true) ∧ Same w w' := by
  by_cases hbig : 2147483647 < s.size
  · have w0 : (2147483647 : Int) < s.size := by omega
    go_enter Tryz.func11, Tryz.ntmps11
    go_wp2_with fail
    go_ret
    exact ⟨rfl, Mods.refl _ _⟩
  · have w0 : ¬ (2147483647 : Int) < s.size := by omega
    by_cases hf : fillOk s = true
    · by_cases hpr : prFrom s 0 = true
      · by_cases h2000 : 2000 < s.size
        · have w2 : (2000 : Int) < s.size := by omega
          go_enter Tryz.func11, Tryz.ntmps11
          go_wp2_with fail
          refine (full_any s w (by omega)).mono ?_
          rintro e w' ⟨rfl, rfl⟩
          rw [hf]
          go_wp2_with fail
          refine (ascii_any s w (by omega)).mono ?_
          rintro e w' ⟨rfl, rfl⟩
          rw [hpr]
          go_wp2_with fail
          go_ret
          exact ⟨rfl, Mods.refl _ _⟩
        · have w2 : ¬ (2000 : Int) < s.size := by omega
          have hlen := escB_len s.data.toList
          have hsz := strL_size (s.data.toList.flatMap escB)
          have e1 : s.data.toList.length = s.size := rfl
          have hb : (strL (s.data.toList.flatMap escB)).size ≤ 12000 := by omega
          have hsl : (slT s).size ≤ 4000 := by have := slT_size s; omega
          obtain ⟨n, hn⟩ : ∃ n : Nat, n = 7 + m % 20 := ⟨_, rfl⟩
          have hm1 : (7 : Int) + (m : Int) % 20 = (n : Int) := by omega
          have hn7 : 7 ≤ n := by omega
          have hn27 : n ≤ 26 := by omega
          have hr0 := repT_size ⟨#[35]⟩ n
          have hr : (repT ⟨#[35]⟩ n).size ≤ 26 := by
            rw [hr0]
            show n * 1 ≤ 26
            omega
          have HT := Lib.hid (seven_text n s)
          have HWn := Lib.hid (seven_want n s)
          clear hn
          clear hlen hsz e1 hr0
          go_enter Tryz.func11, Tryz.ntmps11
          go_wp2_with fail
          refine (full_any s w (by omega)).mono ?_
          rintro e w' ⟨rfl, rfl⟩
          rw [hf]
          go_wp2_with fail
          refine (ascii_any s w (by omega)).mono ?_
          rintro e w' ⟨rfl, rfl⟩
          rw [hpr]
          go_wp2_with fail
          refine (times_any ⟨#[35]⟩ n w (by decide) (by omega)).mono ?_
          rintro e w' ⟨rfl, rfl⟩
          go_wp2_with fail
          refine (plain_any w).mono ?_
          rintro e w1 ⟨rfl, hm1'⟩
          go_wp2_with fail
          refine (slashed_any s w1 (by omega)).mono ?_
          rintro e w2 ⟨rfl, hm2⟩
          have hT := HT.out
          go_wp2_with fail
          have hsc := sevenT_scan n s hpr
          refine (html_of (sevenT n s) w2 (sevenT_line n s hn7 (by omega) hpr hf (by omega)) (sevenT_escd n s hpr) ?_).mono ?_
          · rw [hsc, List.length_append, marks_len]
            have := escB_len s.data.toList
            have e1 : s.data.toList.length = s.size := rfl
            omega
          rw [hsc]
          rintro e w3 ⟨rfl, hm3⟩
          go_wp2_with fail
          refine (EscapeHTML_any s w3 (by omega)).mono ?_
          rintro e w' ⟨rfl, rfl⟩
          clear hpr hf hm1 hT hsc
          go_wp2_with fail
          go_ret
          refine ⟨congrArg (fun b => Ending.returned (.bool b)) ?_, (hm1'.trans hm2).trans hm3⟩
          rw [HWn.out]
          simp
      · have hpr' : prFrom s 0 = false := by simpa using hpr
        go_enter Tryz.func11, Tryz.ntmps11
        go_wp2_with fail
        refine (full_any s w (by omega)).mono ?_
        rintro e w' ⟨rfl, rfl⟩
        rw [hf]
        go_wp2_with fail
        refine (ascii_any s w (by omega)).mono ?_
        rintro e w' ⟨rfl, rfl⟩
        rw [hpr']
        go_wp2_with fail
        go_ret
        exact ⟨rfl, Mods.refl _ _⟩
    · have hf' : fillOk s = false := by simpa using hf
      go_enter Tryz.func11, Tryz.ntmps11
      go_wp2_with fail
      refine (full_any s w (by omega)).mono ?_
      rintro e w' ⟨rfl, rfl⟩
      rw [hf']
      go_wp2_with fail
      go_ret
      exact ⟨rfl, Mods.refl _ _⟩
end Go.Proofs.YtdnlfdppjfjncaaGreatDoor

/- The reference's EscapeURL. -/
namespace Go.Proofs.YtdnlfdppjfjncaaGreatDoor
open Go Go.RowKit Go.Proofs

def hexD : ByteArray := ⟨#[48, 49, 50, 51, 52, 53, 54, 55, 56, 57, 65, 66, 67, 68, 69, 70]⟩
def escU (c : UInt8) : List UInt8 := if c = 38 then [38, 97, 109, 112, 59] else if safeB c then [c] else [37] ++ (hexD.extract (c.toNat / 16) (c.toNat / 16 + 1)).data.toList ++ (hexD.extract (c.toNat % 16) (c.toNat % 16 + 1)).data.toList
def escUN (s : ByteArray) (j : Nat) : List UInt8 := (s.data.toList.take j).flatMap escU
theorem escUN_succ (s : ByteArray) (j : Nat) (h : j < s.size) : escUN s (j + 1) = escUN s j ++ escU s[j] := by
  have h' : j < s.data.toList.length := h
  unfold escUN
  rw [List.take_succ_eq_append_getElem h', List.flatMap_append, List.flatMap_singleton]
  rfl
theorem escU_len (c : UInt8) : (escU c).length ≤ 5 := by
  unfold escU
  split
  · simp
  · split
    · simp
    · have h1 : ∀ n, (hexD.extract n (n + 1)).data.toList.length ≤ 1 := by
        intro n
        rw [Lib.extract_data, List.length_take]
        omega
      have a := h1 (c.toNat / 16)
      have b := h1 (c.toNat % 16)
      rw [List.length_append, List.length_append]
      simp only [List.length_cons, List.length_nil]
      omega
theorem escUN_len (s : ByteArray) : ∀ j, j ≤ s.size → (escUN s j).length ≤ 5 * j
  | 0, _ => by simp [escUN]
  | j + 1, h => by
    have := escUN_len s j (by omega)
    have := escU_len (s[j]'(by omega))
    rw [escUN_succ s j (by omega), List.length_append]
    omega

set_option maxHeartbeats 4000000 in
theorem EscapeURL_any (s : ByteArray) (w : World) (hs : s.size ≤ 1000000) :
    Calls Tryz.prog 18 #[.string s] w fun e w' => e = .returned (.string (strL (escUN s s.size))) ∧ Same w w' := by
  go_enter Tryz.func18, Tryz.ntmps18
  go_wp2_with fail
  go_loopg [3, 4] s.size (fun k o i wr => ∃ j : Nat, o = .string (strL (escUN s j)) ∧ i = .int .i64 j ∧ k = s.size - j ∧ j ≤ s.size ∧ Same w wr)
  case atStart => exact ⟨0, rfl, rfl, rfl, Nat.zero_le _, Mods.refl _ _⟩
  case round =>
    obtain ⟨j, rfl, rfl, rfl, hj, hm⟩ := hrel
    have HM := Lib.hid hm
    clear hm
    have hlen := escUN_len s j hj
    have hsz := strL_size (escUN s j)
    by_cases hlt : j < s.size
    · have w1 : (j : Int) < s.size := by omega
      have w2 : (0 : Int) ≤ j := by omega
      have w3 : IntKind.i64.wrap ((j : Int) + 1) = (j : Int) + 1 := IntWalk.i64_in _ (by omega)
      have HS := Lib.hid (escUN_succ s j hlt)
      have HX := Lib.hid (strL_ext s j hlt)
      by_cases h38 : s[j] = 38
      · have d : ((s[j].toNat : Int) == 38) = true := by rw [h38]; rfl
        have HE : Hid (escU s[j] = [38, 97, 109, 112, 59]) := by rw [h38]; rfl
        clear h38
        go_wp2_with fail
        go_roundg (s.size - (j + 1))
        case measure => omega
        case rel => exact ⟨j + 1, by rw [HS.out, HE.out, ← strL_app]; rfl, rfl, rfl, by omega, HM.out⟩
      · have d1 : ((s[j].toNat : Int) == 38) = false := bne_byte (k := 38) h38 (by omega)
        cases hsf : safeB s[j] with
        | true =>
          have HE : Hid (escU s[j] = [s[j]]) := by show escU s[j] = [s[j]]; unfold escU; rw [if_neg h38, if_pos hsf]
          clear h38
          have HF := Lib.hid hsf
          clear hsf
          have w4 : (j : Int) ≤ (j : Int) + 1 := by omega
          have w5 : (j : Int) + 1 ≤ s.size := by omega
          have w6 : ((j : Int) + 1).toNat = j + 1 := by omega
          have w7 : (0 : Int) ≤ (j : Int) + 1 := by omega
          go_wp2_with fail
          refine (isSafe_any s[j] wr).mono ?_
          rintro e w' ⟨rfl, rfl⟩
          rw [HF.out]
          go_wp2_with fail
          go_roundg (s.size - (j + 1))
          case measure => omega
          case rel => exact ⟨j + 1, by rw [HS.out, HE.out, ← strL_app, ← HX.out], rfl, rfl, by omega, HM.out⟩
        | false =>
          have HE : Hid (escU s[j] = [37] ++ (hexD.extract (s[j].toNat / 16) (s[j].toNat / 16 + 1)).data.toList ++ (hexD.extract (s[j].toNat % 16) (s[j].toNat % 16 + 1)).data.toList) := by show escU s[j] = _; unfold escU; rw [if_neg h38, if_neg (by rw [hsf]; decide)]
          clear h38
          have HF := Lib.hid hsf
          clear hsf
          go_wp2_with fail
          refine (isSafe_any s[j] wr).mono ?_
          rintro e w' ⟨rfl, rfl⟩
          rw [HF.out]
          go_wp2_with fail
          have hN : s[j].toNat < 256 := s[j].toNat_lt
          have HE2 := HE.out
          generalize hNN : s[j].toNat = N at *
          have a1 : IntKind.u8.wrap ((N : Int) / 16) = (N : Int) / 16 := IntWalk.u8_in _ (by omega)
          have a2 : IntKind.u8.wrap ((N : Int) / 16 + 1) = (N : Int) / 16 + 1 := IntWalk.u8_in _ (by omega)
          have a3 : (0 : Int) ≤ (N : Int) / 16 := by omega
          have a4 : (N : Int) / 16 ≤ (N : Int) / 16 + 1 := by omega
          have a5 : (N : Int) / 16 + 1 ≤ 16 := by omega
          have a6 : ((N : Int) / 16).toNat = N / 16 := by omega
          have a7 : ((N : Int) / 16 + 1).toNat = N / 16 + 1 := by omega
          have b1 : IntKind.u8.wrap ((N : Int) % 16) = (N : Int) % 16 := IntWalk.u8_in _ (by omega)
          have b2 : IntKind.u8.wrap ((N : Int) % 16 + 1) = (N : Int) % 16 + 1 := IntWalk.u8_in _ (by omega)
          have b3 : (0 : Int) ≤ (N : Int) % 16 := by omega
          have b4 : (N : Int) % 16 ≤ (N : Int) % 16 + 1 := by omega
          have b5 : (N : Int) % 16 + 1 ≤ 16 := by omega
          have b6 : ((N : Int) % 16).toNat = N % 16 := by omega
          have b7 : ((N : Int) % 16 + 1).toNat = N % 16 + 1 := by omega
          go_quiet (fail)
          have HE3 := Lib.hid HE2
          clear HE2 a1 a2 a3 a4 a5 a6 a7 b1 b2 b3 b4 b5 b6 b7
          go_wp2_with fail
          go_roundg (s.size - (j + 1))
          case measure => omega
          case rel =>
            refine ⟨j + 1, ?_, rfl, rfl, by omega, HM.out.drewN nq⟩
            rw [HS.out, HE3.out, ← strL_app, ← strL_app, ← strL_app, strL_all, strL_all, ← ByteArray.append_assoc, ← ByteArray.append_assoc]
            rfl
    · have hjs : j = s.size := by omega
      subst hjs
      have w1 : ¬ ((s.size : Int) < s.size) := by omega
      go_wp2_with fail
      go_ret
      exact ⟨rfl, HM.out⟩
end Go.Proofs.YtdnlfdppjfjncaaGreatDoor

/- Plain facts for FnAutolink: both tables agree, the text is an automatic link. -/
namespace Go.Proofs.YtdnlfdppjfjncaaGreatDoor
open Go Go.RowKit Go.Proofs

set_option maxRecDepth 100000 in
theorem link_escU : ∀ n : Fin 256, 33 ≤ n.1 → n.1 ≤ 126 → n.1 ≠ 60 → n.1 ≠ 62 → lk linkTab (UInt8.ofNat n.1) = escU (UInt8.ofNat n.1) := by decide +kernel

theorem link_same {l : List UInt8} (h : ∀ c ∈ l, 33 ≤ c.toNat ∧ c.toNat ≤ 126 ∧ c.toNat ≠ 60 ∧ c.toNat ≠ 62) : l.flatMap (lk linkTab) = l.flatMap escU := by
  induction l with
  | nil => rfl
  | cons c r ih =>
    obtain ⟨h1, h2, h3, h4⟩ := h c (by simp)
    have h5 := link_escU ⟨c.toNat, c.toNat_lt⟩ h1 h2 h3 h4
    simp only [UInt8.ofNat_toNat] at h5
    rw [List.flatMap_cons, List.flatMap_cons, h5, ih (fun x hx => h x (by simp [hx]))]

/-- The plan of a text that is one automatic link. -/
theorem plan_auto (s : ByteArray) (m : Nat) (hU : Uri s m) : Plan s 0 0 [.auto (s.extract 1 (s.size - 1)) (s.extract 1 (s.size - 1))] := by
  have hlt := hU.sch.lt
  have h := Plan.piece (s := s) (k := 0) (e := 0) (r := []) (by omega) 78 (Or.inr (Or.inl ⟨hU.sch.open_ (by omega), rfl⟩)) (.auto (s.extract 1 (s.size - 1)) (s.extract 1 (s.size - 1))) 0 s.size (Nat.le_refl _) (Nat.le_refl _) (by omega) (Nat.le_refl _) (auto_call s m hU) (fun _ h => by cases h) (by
    have := Plan.fin (s := s) s.size
    rwa [if_neg (Nat.lt_irrefl _)] at this)
  rwa [if_neg (Nat.lt_irrefl _)] at h
end Go.Proofs.YtdnlfdppjfjncaaGreatDoor
