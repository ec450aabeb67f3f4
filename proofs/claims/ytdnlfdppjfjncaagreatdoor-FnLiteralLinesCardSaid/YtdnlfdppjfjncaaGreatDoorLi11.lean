/- Some texts of one proof, put into one file: LawM, LawL2, Frame. -/
import Derived.Test.YtdnlfdppjfjncaaGreatDoorRows
import Derived.WalkKit
import Derived.ProofKit
import Derived.OpenShut
import Derived.ShutString
import Derived.LaidMore
import Derived.LaidHandle
import Derived.LaidLaws
import Derived.Test.YtdnlfdppjfjncaaGreatDoorLi1
import Derived.Test.YtdnlfdppjfjncaaGreatDoorLi10
/- FnLiteralLines: the plain law of escaped lines. -/
namespace Go.Proofs.YtdnlfdppjfjncaaGreatDoor
open Go Go.RowKit Go.Proofs

/-- A line as the law lets it pass. -/
structure LineOk (t : ByteArray) : Prop where
  full : fillOk t = true
  pr : prFrom t 0 = true
  le : t.size ≤ 200

theorem LineOk.one {t : ByteArray} (h : LineOk t) : OneLine (slT t) := oneLine_sl t h.pr h.full (by have := h.le; omega)

theorem slT_first {t : ByteArray} (h0 : 0 < t.size) (hp : 0 < (slT t).size) : (slT t)[0] = 92 ∨ punct (slT t)[0] = false := by
  obtain ⟨c, l, hcl⟩ : ∃ c l, t.data.toList = c :: l := by
    cases h : t.data.toList with
    | nil => have e1 : t.data.toList.length = t.size := rfl
             rw [h] at e1; simp at e1; omega
    | cons c l => exact ⟨c, l, rfl⟩
  have hg := get_of hp
  rw [slT_list, hcl, sl_cons] at hg
  unfold slB at hg
  by_cases hc : punct c = true
  · rw [if_pos hc] at hg
    exact Or.inl (Option.some.inj hg).symm
  · rw [if_neg hc] at hg
    right
    rw [← (Option.some.inj hg)]
    simpa using hc

theorem LineOk.pos {t : ByteArray} (h : LineOk t) : 0 < t.size := (fill_first h.full).1

theorem LineOk.goes {t : ByteArray} (h : LineOk t) : Goes (slT t) := by
  have ho := h.one
  have hf := slT_first h.pos ho.pos
  have h32 : (slT t)[0]'ho.pos ≠ 32 := by
    intro e
    have := ho.first
    rw [e] at this
    cases this
  have hl : p3 (slT t) 0 = 0 := by
    unfold p3 lead
    rw [dif_pos ho.pos, if_neg h32]
  have ha0 : at0 (slT t) (p3 (slT t) 0) = (slT t)[0]'ho.pos := by rw [hl]; exact at0_eq ho.pos
  have hk : ∀ k : Nat, (punct (UInt8.ofNat k) = true) → UInt8.ofNat k ≠ 92 → k < 256 → (((slT t)[0]'ho.pos).toNat : Int) ≠ k := by
    intro k hp hne hlt e
    have : (slT t)[0]'ho.pos = UInt8.ofNat k := UInt8.toNat_inj.1 (by rw [UInt8.toNat_ofNat']; omega)
    rcases hf with h | h
    · exact hne (this ▸ h)
    · rw [this, hp] at h; cases h
  refine ⟨?_, by rw [ha0]; exact hk 61 (by decide) (by decide) (by decide)⟩
  rcases ho.begins with hP | h7
  · exact hP
  · have h35 : at0 (slT t) (p3 (slT t) 0) = 35 := h7 0 (by omega)
    rw [ha0] at h35
    exact absurd (by rw [h35]; rfl) (hk 35 (by decide) (by decide) (by decide))

theorem LineOk.size {t : ByteArray} (h : LineOk t) : (slT t).size ≤ 400 := by
  have := slT_size t
  have := h.le
  omega

theorem joinT_bound (B : Nat) : ∀ ls : List ByteArray, (∀ l ∈ ls, l.size ≤ B) → (joinT ls).size ≤ ls.length * (B + 1)
  | [], _ => by rw [joinT_nil]; exact Nat.zero_le _
  | [x], h => by
    rw [joinT_one]
    have := h x (by simp)
    simp only [List.length_cons, List.length_nil]
    omega
  | x :: y :: r, h => by
    have h1 := joinT_bound B (y :: r) (fun l hl => h l (List.mem_cons_of_mem _ hl))
    have h2 := h x (by simp)
    rw [joinT_size2, List.length_cons, Nat.add_mul]
    omega

/-- The bytes of the joined text behind a map of each byte. -/
theorem join_flat (f : UInt8 → List UInt8) (g : ByteArray → ByteArray) (h10 : f 10 = [10]) (hg : ∀ l, (g l).data.toList = l.data.toList.flatMap f) : ∀ ls : List ByteArray, (joinT (ls.map g)).data.toList = (joinT ls).data.toList.flatMap f
  | [] => by rw [List.map_nil, joinT_nil]; rfl
  | [x] => by rw [List.map_cons, List.map_nil, joinT_one, joinT_one]; exact hg x
  | x :: y :: r => by
    have h1 := join_flat f g h10 hg (y :: r)
    rw [List.map_cons] at h1
    rw [List.map_cons, List.map_cons, joinT_cons2, h1, hg, joinT_cons2, List.flatMap_append, List.flatMap_cons, h10]
    rfl

/-- A line by its bytes: no line feed; neither end is white space. -/
structure Ends (x : ByteArray) : Prop where
  no : ∀ c ∈ x.data.toList, c ≠ 10
  head : ∃ a r, x.data.toList = a :: r ∧ isW a = false
  last : ∃ m b, x.data.toList = m ++ [b] ∧ isW b = false

theorem Ends.of {x : ByteArray} (h : OneLine x) : Ends x := by
  have hp := h.pos
  have e1 : x.data.toList.length = x.size := rfl
  refine ⟨fun c hc e => ?_, ?_, ?_⟩
  · obtain ⟨k, hk, hk2⟩ := mem_get hc
    exact h.no10 k hk (hk2.trans e)
  · cases hx : x.data.toList with
    | nil => rw [hx] at e1; simp at e1; omega
    | cons a r =>
      have hg := get_of hp
      rw [hx] at hg
      have : x[0] = a := (Option.some.inj hg).symm
      exact ⟨a, r, rfl, by rw [← this]; exact h.first⟩
  · have hne : x.data.toList ≠ [] := by
      intro e
      rw [e] at e1
      simp at e1
      omega
    obtain ⟨m, d, hmd⟩ : ∃ m d, x.data.toList = m ++ [d] := ⟨_, _, (List.dropLast_concat_getLast hne).symm⟩
    have hg := get_of (s := x) (i := x.size - 1) (by omega)
    rw [hmd] at hg e1
    simp at e1
    rw [List.getElem?_append_right (by omega), show x.size - 1 - m.length = 0 by omega] at hg
    have : x[x.size - 1]'(by omega) = d := (Option.some.inj hg).symm
    exact ⟨m, d, hmd, by rw [← this]; exact h.last⟩

theorem joinT_head : ∀ (y : ByteArray) (r : List ByteArray), Ends y → ∃ a q, (joinT (y :: r)).data.toList = a :: q ∧ isW a = false
  | y, [], h => by rw [joinT_one]; exact h.head
  | y, z :: r, h => by
    obtain ⟨a, q, h1, h2⟩ := h.head
    rw [joinT_cons2, h1]
    exact ⟨a, _, rfl, h2⟩
theorem joinT_last : ∀ (y : ByteArray) (r : List ByteArray), (∀ x ∈ y :: r, Ends x) → ∃ m b, (joinT (y :: r)).data.toList = m ++ [b] ∧ isW b = false
  | y, [], h => by rw [joinT_one]; exact (h y (by simp)).last
  | y, z :: r, h => by
    obtain ⟨m, b, h1, h2⟩ := joinT_last z r (fun x hx => h x (List.mem_cons_of_mem _ hx))
    rw [joinT_cons2, h1]
    exact ⟨y.data.toList ++ 10 :: m, b, by simp, h2⟩

theorem joinT_lastB {xs : List ByteArray} (hne : xs ≠ []) (h : ∀ x ∈ xs, Ends x) (hp : 0 < (joinT xs).size) : isW ((joinT xs)[(joinT xs).size - 1]'(by omega)) = false := by
  obtain ⟨y, r, rfl⟩ : ∃ y r, xs = y :: r := by
    cases xs with
    | nil => exact absurd rfl hne
    | cons y r => exact ⟨y, r, rfl⟩
  obtain ⟨m, b, h1, h2⟩ := joinT_last y r h
  have hg := get_of (s := joinT (y :: r)) (i := (joinT (y :: r)).size - 1) (by omega)
  have e1 : (joinT (y :: r)).data.toList.length = (joinT (y :: r)).size := rfl
  rw [h1] at hg e1
  simp at e1
  rw [List.getElem?_append_right (by omega), show (joinT (y :: r)).size - 1 - m.length = 0 by omega] at hg
  rw [← (Option.some.inj hg)]
  exact h2

theorem noW_list : ∀ xs : List ByteArray, (∀ x ∈ xs, Ends x) → ∀ k : Nat, (joinT xs).data.toList[k]? = some 10 → ∃ (q : Nat) (a b : UInt8), k = q + 1 ∧ (joinT xs).data.toList[q]? = some a ∧ (joinT xs).data.toList[k + 1]? = some b ∧ isW a = false ∧ isW b = false
  | [], _, k, hk => by rw [joinT_nil, show ByteArray.empty.data.toList = [] from rfl, List.getElem?_nil] at hk; cases hk
  | [x], h, k, hk => by
    rw [joinT_one] at hk
    exact absurd rfl ((h x (by simp)).no 10 (List.mem_of_getElem? hk))
  | x :: y :: r, h, k, hk => by
    have hx := h x (by simp)
    have hyr : ∀ z ∈ y :: r, Ends z := fun z hz => h z (List.mem_cons_of_mem _ hz)
    rw [joinT_cons2] at hk ⊢
    rcases Nat.lt_trichotomy k x.data.toList.length with hlt | heq | hgt
    · rw [List.getElem?_append_left hlt] at hk
      exact absurd rfl (hx.no 10 (List.mem_of_getElem? hk))
    · obtain ⟨m, b, hm, hb⟩ := hx.last
      obtain ⟨a, q, ha, ha2⟩ := joinT_head y r (hyr y (by simp))
      have hml : x.data.toList.length = m.length + 1 := by rw [hm]; simp
      refine ⟨m.length, b, a, by omega, ?_, ?_, hb, ha2⟩
      · rw [List.getElem?_append_left (by omega), hm]; simp
      · rw [List.getElem?_append_right (by omega), show k + 1 - x.data.toList.length = 1 by omega, ha]; rfl
    · obtain ⟨n, hn⟩ : ∃ n, k = x.data.toList.length + 1 + n := ⟨k - x.data.toList.length - 1, by omega⟩
      rw [List.getElem?_append_right (by omega), show k - x.data.toList.length = n + 1 by omega, List.getElem?_cons_succ] at hk
      obtain ⟨q, a, b, h1, h2, h3, h4, h5⟩ := noW_list (y :: r) hyr n hk
      refine ⟨x.data.toList.length + 1 + q, a, b, by omega, ?_, ?_, h4, h5⟩
      · rw [List.getElem?_append_right (by omega), show x.data.toList.length + 1 + q - x.data.toList.length = q + 1 by omega, List.getElem?_cons_succ]; exact h2
      · rw [List.getElem?_append_right (by omega), show k + 1 - x.data.toList.length = n + 1 + 1 by omega, List.getElem?_cons_succ]; exact h3

theorem noW_joinT (xs : List ByteArray) (h : ∀ x ∈ xs, Ends x) : NoW (joinT xs) := by
  intro k hk h10
  obtain ⟨q, a, b, h1, h2, h3, h4, h5⟩ := noW_list xs h k (by rw [get_of hk, h10])
  have hk1 : k + 1 < (joinT xs).size := (List.getElem?_eq_some_iff.1 h3).1
  have e1 : (joinT xs)[k + 1] = b := Option.some.inj ((get_of hk1).symm.trans h3)
  refine ⟨by omega, hk1, ?_, by rw [e1]; exact h5⟩
  subst h1
  have e2 : (joinT xs)[q + 1 - 1]'(by omega) = a := Option.some.inj ((get_of (s := joinT xs) (i := q + 1 - 1) (by omega)).symm.trans h2)
  rw [e2]
  exact h4

theorem paraText_lines (ls : List ByteArray) (hne : ls ≠ []) (hn : ls.length ≤ 50) (h : ∀ l ∈ ls, LineOk l) : ParaText (ls.map slT) := by
  have hO : ∀ x ∈ ls.map slT, OneLine x := fun x hx => by
    obtain ⟨t, ht, rfl⟩ := List.mem_map.1 hx
    exact (h t ht).one
  have hG : ∀ x ∈ ls.map slT, Goes x := fun x hx => by
    obtain ⟨t, ht, rfl⟩ := List.mem_map.1 hx
    exact (h t ht).goes
  have hb := joinT_bound 400 (ls.map slT) (fun x hx => by
    obtain ⟨t, ht, rfl⟩ := List.mem_map.1 hx
    exact (h t ht).size)
  rw [List.length_map] at hb
  refine ⟨by simpa using hne, by omega, by rw [List.length_map]; omega, fun l hl => (hO l hl).pos, fun l hl _ => (hO l hl).first, fun l hl => (hO l hl).no0, fun l hl => (hO l hl).no10, fun l hl => (hO l hl).no13, fun l hl => (hO l hl).no9, ?_, ?_, ?_, ?_⟩
  · exact joinT_lastB (by simpa using hne) (fun x hx => Ends.of (hO x hx))
  · intro l r hls _
    exact (hO l (by rw [hls]; simp)).no91
  · intro l r hls
    exact (hO l (by rw [hls]; simp)).begins
  · intro l r hls x hx
    exact hG x (by rw [hls]; exact List.mem_cons_of_mem _ hx)

theorem html_lines (ls : List ByteArray) (w : World) (hne : ls ≠ []) (hn : ls.length ≤ 50) (h : ∀ l ∈ ls, LineOk l) :
    Calls Tryz.prog 17 #[.agg #[.bool false, .bool false, .bool false, .bool false, .bool false, .bool false, .bool false, .bool false, .bool false, .bool false], .string (joinT (ls.map slT))] w fun e w' => e = .returned (.string (strL (pOpen ++ (joinT ls).data.toList.flatMap escB ++ pClose))) ∧ Same w w' := by
  have hP := paraText_lines ls hne hn h
  have hsm := hP.small
  have hO : ∀ x ∈ ls.map slT, OneLine x := fun x hx => by
    obtain ⟨t, ht, rfl⟩ := List.mem_map.1 hx
    exact (h t ht).one
  have hb := joinT_bound 200 ls (fun x hx => (h x hx).le)
  have hpr : ∀ c ∈ (joinT ls).data.toList, Pr c ∨ c = 10 := by
    intro c hc
    rcases joinT_mem ls c hc with h1 | ⟨l, hl, h1⟩
    · exact Or.inr h1
    · exact Or.inl (pr_list (h l hl).pr c h1)
  obtain ⟨all, a1, a2, a3⟩ := plan_sl (joinT (ls.map slT)) (by omega) (noW_joinT _ (fun x hx => Ends.of (hO x hx))) (joinT ls).data.toList 0 0 (Nat.le_refl _) (Nat.zero_le _) hpr
    (by rw [from_zero]; exact join_flat slB slT (by decide) (fun l => slT_list l) ls)
  rw [ext_none, List.flatMap_nil, List.nil_append] at a2
  refine (impl_HTML_many (ls.map slT) w hP all a1 ?_ ?_ a3.au).mono ?_
  · intro i
    have h1 : (all.take i).flatMap outPc ++ (all.drop i).flatMap outPc = (joinT ls).data.toList.flatMap escB := by
      rw [← a2, ← List.flatMap_append, List.take_append_drop]
    have h2 := congrArg List.length h1
    rw [List.length_append] at h2
    have h3 : pOpen.length = 3 := rfl
    have h4 := escB_len (joinT ls).data.toList
    have h5 : (joinT ls).data.toList.length = (joinT ls).size := rfl
    simp only [List.nil_append, List.length_append]
    omega
  · intro u hu
    have := a3.sz u hu
    omega
  · rintro e w' ⟨rfl, hm⟩
    rw [a2]
    exact ⟨rfl, hm⟩
end Go.Proofs.YtdnlfdppjfjncaaGreatDoor

/- FnLiteralLines answers true. -/
namespace Go.Proofs.YtdnlfdppjfjncaaGreatDoor
open Go Go.RowKit Go.Proofs

def escT (l : ByteArray) : ByteArray := strL (l.data.toList.flatMap escB)

/-- The two rows of the law's loop behind j lines, and what the lines have been found to be. -/
structure LinAcc (w wr : World) (ls : List ByteArray) (j : Nat) (x y : Value) : Prop where
  same : Same w wr
  rx : wr.ownsRow 0 9 1 x j ((ls.take j).map fun l => .string (slT l))
  ry : wr.ownsRow 0 9 1 y j ((ls.take j).map fun l => .string (escT l))
  good : (∀ k, x.ownBlock = some k → w.heap.size ≤ k) ∧ (∀ k, y.ownBlock = some k → w.heap.size ≤ k) ∧ (∀ k, x.ownBlock = some k → y.ownBlock ≠ some k) ∧ ∀ l ∈ ls.take j, fillOk l = true ∧ prFrom l 0 = true ∧ l.size ≤ 200

theorem LinAcc.start (w : World) (ls : List ByteArray) : LinAcc w w ls 0 (.slice none 0 0) (.slice none 0 0) :=
  ⟨Mods.refl _ w, World.ownsRow_nil _ _ _ _, World.ownsRow_nil _ _ _ _, fun k h => by (cases h), fun k h => by (cases h), fun k h => by (cases h), fun l h => by simp at h⟩

theorem LinAcc.cell {w wr : World} {ls : List ByteArray} {j : Nat} {x y : Value} (h : LinAcc w wr ls j x y) {a : Addr} (hc : ∀ i z, ls[i]? = some z → w.cell? (a.add i) = some (.string z)) {l : ByteArray} (hl : ls[j]? = some l) : wr.cell? (a.add j) = some (.string l) := by
  have h1 := hc j l hl
  have hlt := World.block_lt_of_cell? _ _ h1
  exact (World.cell?_of_block (h.same.block _ hlt (fun x => x))).trans h1

theorem escT_list (l : ByteArray) : (escT l).data.toList = l.data.toList.flatMap escB := by simp [escT, strL]
theorem escT_size {l : ByteArray} (h : l.size ≤ 200) : (escT l).size ≤ 1200 := by
  have h1 := escB_len l.data.toList
  have h2 := strL_size (l.data.toList.flatMap escB)
  have e1 : l.data.toList.length = l.size := rfl
  show (strL _).size ≤ _
  omega

theorem strsAt_row (f : ByteArray → ByteArray) {w : World} {ls : List ByteArray} {g c : Nat} (hc : ∀ j u, (ls.map fun l => Value.string (f l))[j]? = some u → w.cell? ⟨g, j, none⟩ = some u) : StrsAt w (.slice (some ⟨g, 0, none⟩) ls.length c) (ls.map f) := by
  refine Or.inr ⟨⟨g, 0, none⟩, c, by rw [List.length_map], fun i x hx => ?_⟩
  have h1 := hc i (.string x) (by
    rw [List.getElem?_map] at hx ⊢
    cases h : ls[i]? with
    | none => rw [h] at hx; cases hx
    | some y => rw [h] at hx; cases hx; rfl)
  simpa [Addr.add_lit] using h1

theorem StrsAt.same {w w' : World} {v : Value} {ls : List ByteArray} (h : StrsAt w v ls) (hm : Same w w') : StrsAt w' v ls := by
  rcases h with h | ⟨a, cap, h1, h2⟩
  · exact Or.inl h
  · refine Or.inr ⟨a, cap, h1, fun i x hx => ?_⟩
    have h3 := h2 i x hx
    exact (World.cell?_of_block (hm.block _ (World.block_lt_of_cell? _ _ h3) (fun x => x))).trans h3

theorem lines_want (ls : List ByteArray) : (⟨#[60, 112, 62]⟩ : ByteArray) ++ joinT (ls.map escT) ++ (⟨#[60, 47, 112, 62, 10]⟩ : ByteArray) = strL (pOpen ++ (joinT ls).data.toList.flatMap escB ++ pClose) := by
  have h := join_flat escB escT (by decide) escT_list ls
  apply ByteArray.ext
  apply Array.toList_inj.1
  simp [strL, pOpen, pClose, h]

theorem size_alloc (w : World) (o : Obj) : (w.alloc o).heap.size = w.heap.size + 1 := Array.size_push ..

theorem LinAcc.step {w wr w2 w3 w5 : World} {ls : List ByteArray} {j : Nat} {x y : Value} {l : ByteArray} {O1 O2 : Obj} {g1 c1 g2 c2 : Nat} (hA : LinAcc w wr ls j x y) (hl : ls[j]? = some l) (hgood : fillOk l = true ∧ prFrom l 0 = true ∧ l.size ≤ 200) (hm2 : Same wr w2)
    (h3 : w3.ownsRow 0 9 1 (.slice (some ⟨g1, 0, none⟩) (j + 1) c1) (j + 1) (((ls.take j).map fun l => .string (slT l)) ++ [.string (slT l)])) (hg3 : (w2.alloc O1).grownBy w3 x.ownBlock) (hl3 : x.ownBlock = some g1 ∨ g1 = w2.heap.size + 1)
    (h5 : w5.ownsRow 0 9 1 (.slice (some ⟨g2, 0, none⟩) (j + 1) c2) (j + 1) (((ls.take j).map fun l => .string (escT l)) ++ [.string (escT l)])) (hg5 : (w3.alloc O2).grownBy w5 y.ownBlock) (hl5 : y.ownBlock = some g2 ∨ g2 = w3.heap.size + 1) :
    LinAcc w w5 ls (j + 1) (.slice (some ⟨g1, 0, none⟩) (j + 1) c1) (.slice (some ⟨g2, 0, none⟩) (j + 1) c2) := by
  obtain ⟨q1, q2, q3, q4⟩ := hA.good
  have m3 := grown_mods hg3
  have m5 := grown_mods hg5
  have s1 : Same w (w2.alloc O1) := (hA.same.trans hm2).alloc _
  have s3 : Same w w3 := s1.then m3 (fun b hb h => absurd (q1 b h) (by omega))
  have s4 : Same w (w3.alloc O2) := s3.alloc _
  have s5 : Same w w5 := s4.then m5 (fun b hb h => absurd (q2 b h) (by omega))
  have z1 := s1.size
  have z2 := hm2.size
  have z4 := s4.size
  have z3 := m3.size
  have e1 := size_alloc w2 O1
  have e2 := size_alloc w3 O2
  have hyl : ∀ k, y.ownBlock = some k → k < wr.heap.size := fun k hk => (hA.ry.lt k hk).2
  have hgl := (h3.lt g1 rfl).2
  have hyg : y.ownBlock ≠ some g1 := by
    intro e
    rcases hl3 with h | h
    · exact q3 g1 h e
    · have := hyl g1 e; omega
  have hg1 : w.heap.size ≤ g1 := by
    rcases hl3 with h | h
    · exact q1 g1 h
    · omega
  have hg2 : w.heap.size ≤ g2 := by
    rcases hl5 with h | h
    · exact q2 g2 h
    · omega
  have hne : g1 ≠ g2 := by
    intro e
    rcases hl5 with h | h
    · exact hyg (by rw [e]; exact h)
    · omega
  refine ⟨s5, ?_, ?_, fun k hk => ?_, fun k hk => ?_, fun k hk hk2 => ?_, fun x hx => ?_⟩
  · rw [take_succ_get hl, List.map_append]
    exact ownsRow_keep (ownsRow_keep h3 ((Mods.refl (fun _ => False) w3).alloc O2) (fun _ _ x => x)) m5 (fun k hk e => by cases hk; exact hyg e)
  · rw [take_succ_get hl, List.map_append]
    exact h5
  · cases hk; exact hg1
  · cases hk; exact hg2
  · cases hk; cases hk2; exact hne rfl
  · rw [take_succ_get hl] at hx
    rcases List.mem_append.1 hx with hx | hx
    · exact q4 x hx
    · have : x = l := by simpa using hx
      subst this
      exact hgood

set_option maxRecDepth 100000 in
set_option maxHeartbeats 4000000 in
theorem law_lines (v : Value) (ls : List ByteArray) (w : World) (h : StrsAt w v ls) :
    Calls Tryz.prog 8 #[v] w fun e w' => e = .returned (.bool true) ∧ Same w w' := by
  by_cases hfit : fitsB ls = true
  · obtain ⟨hlen, hsz⟩ := fitsB_out hfit
    by_cases hl : ls = []
    · subst hl
      obtain ⟨a, cap, rfl⟩ := h.form
      go_enter Tryz.func8, Tryz.ntmps8
      go_wp2_with fail
      refine (zzFits2_any _ [] w h).mono ?_
      rintro e w' ⟨rfl, rfl⟩
      rw [hfit]
      go_wp2_with fail
      go_ret
      exact ⟨rfl, Mods.refl _ _⟩
    · obtain ⟨a, cap, rfl, hc⟩ := h.some hl
      have hp : 0 < ls.length := List.length_pos_iff.2 hl
      by_cases h50 : 50 < ls.length
      · have v1 : (50 : Int) < ls.length := by omega
        have HC := Lib.hid hc
        have HF := Lib.hid (zzFits2_any _ ls w h)
        clear hc h
        have v0 : ((ls.length : Int) == 0) = false := by rw [beq_eq_false_iff_ne]; omega
        go_enter Tryz.func8, Tryz.ntmps8
        go_wp2_with fail
        refine HF.out.mono ?_
        rintro e w' ⟨rfl, rfl⟩
        rw [hfit]
        go_wp2_with fail
        go_ret
        exact ⟨rfl, Mods.refl _ _⟩
      · have v1 : ¬ (50 : Int) < ls.length := by omega
        have HC := Lib.hid hc
        have HF := Lib.hid (zzFits2_any _ ls w h)
        clear hc h
        have v0 : ((ls.length : Int) == 0) = false := by rw [beq_eq_false_iff_ne]; omega
        go_enter Tryz.func8, Tryz.ntmps8
        go_wp2_with fail
        refine HF.out.mono ?_
        rintro e w' ⟨rfl, rfl⟩
        rw [hfit]
        go_wp2_with fail
        go_loopg [3, 4, 20] ls.length (fun k x y i wr => ∃ j : Nat, k = ls.length - j ∧ j ≤ ls.length ∧ i = .int .i64 j ∧ LinAcc w wr ls j x y)
        case atStart => exact ⟨0, rfl, Nat.zero_le _, rfl, LinAcc.start w ls⟩
        case round =>
          obtain ⟨j, hk, hj, rfl, hA⟩ := hrel
          have HK := Lib.hid hk
          clear hk
          by_cases hlt : j < ls.length
          · have w1 : (j : Int) < ls.length := by omega
            have w2 : (0 : Int) ≤ j := by omega
            have w3 : IntKind.i64.wrap ((j : Int) + 1) = (j : Int) + 1 := IntWalk.i64_in _ (by omega)
            obtain ⟨l, hlj⟩ : ∃ l, ls[j]? = some l := ⟨_, List.getElem?_eq_getElem hlt⟩
            have c1 : wr.cell? (a.add j) = some (.string l) := hA.cell HC.out hlj
            have hl7 := hsz l (List.mem_of_getElem? hlj)
            have HJ := Lib.hid hlj
            clear hlj hsz
            by_cases hf : fillOk l = true
            · by_cases hpr : prFrom l 0 = true
              · by_cases h200 : 200 < l.size
                · have v2 : (200 : Int) < l.size := by omega
                  go_wp2_with fail
                  refine (full_any l wr (by omega)).mono ?_
                  rintro e w' ⟨rfl, rfl⟩
                  rw [hf]
                  go_wp2_with fail
                  refine (ascii_any l wr (by omega)).mono ?_
                  rintro e w' ⟨rfl, rfl⟩
                  rw [hpr]
                  go_wp2_with fail
                  go_ret
                  exact ⟨rfl, hA.same⟩
                · have v2 : ¬ (200 : Int) < l.size := by omega
                  have HA := Lib.hid hA
                  have HG : Hid (fillOk l = true ∧ prFrom l 0 = true ∧ l.size ≤ 200) := ⟨hf, hpr, by omega⟩
                  clear hA
                  go_wp2_with fail
                  refine (full_any l wr (by omega)).mono ?_
                  rintro e w' ⟨rfl, rfl⟩
                  rw [hf]
                  go_wp2_with fail
                  refine (ascii_any l wr (by omega)).mono ?_
                  rintro e w' ⟨rfl, rfl⟩
                  rw [hpr]
                  go_wp2_with fail
                  refine (slashed_any l wr (by omega)).mono ?_
                  rintro e w2 ⟨rfl, hm2⟩
                  have hx2 := ownsRow_keep HA.out.rx hm2 (fun _ _ x => x)
                  go_wp2_with (at_builtin; refine ap_str rfl _ _ rfl _ j _ rfl (ownsRow_keep hx2 ((Mods.refl (fun _ => False) w2).alloc _) (fun _ _ x => x)) w2.heap.size 1 (slT l) rfl ((Blk.newAt _ _ rfl).cell 0) (by omega) ?_)
                  intro g1 c1' w3 h3 hg3 hl3
                  have hy3 := ownsRow_keep (ownsRow_keep (ownsRow_keep HA.out.ry hm2 (fun _ _ x => x)) ((Mods.refl (fun _ => False) w2).alloc _) (fun _ _ x => x)) (grown_mods hg3) (fun k hk e => HA.out.good.2.2.1 k e hk)
                  go_wp2_with fail
                  refine (EscapeHTML_any l w3 (by omega)).mono ?_
                  rintro e w' ⟨rfl, rfl⟩
                  go_wp2_with (at_builtin; refine ap_str rfl _ _ rfl _ j _ rfl (ownsRow_keep hy3 ((Mods.refl (fun _ => False) w3).alloc _) (fun _ _ x => x)) w3.heap.size 1 (escT l) rfl ((Blk.newAt _ _ rfl).cell 0) (by omega) ?_)
                  intro g2 c2' w5 h5 hg5 hl5
                  try rw [← List.map_take] at h3
                  try rw [← List.map_take] at h5
                  have hN := HA.out.step HJ.out HG.out hm2 h3 hg3 hl3 h5 hg5 hl5
                  clear h3 hg3 hl3 h5 hg5 hl5 hx2 hy3
                  go_wp2_with fail
                  go_roundg (ls.length - (j + 1))
                  case measure => have := HK.out; omega
                  case rel => exact ⟨j + 1, rfl, hlt, by rw [Int.natCast_succ], hN⟩
              · have hpr' : prFrom l 0 = false := by simpa using hpr
                go_wp2_with fail
                refine (full_any l wr (by omega)).mono ?_
                rintro e w' ⟨rfl, rfl⟩
                rw [hf]
                go_wp2_with fail
                refine (ascii_any l wr (by omega)).mono ?_
                rintro e w' ⟨rfl, rfl⟩
                rw [hpr']
                go_wp2_with fail
                go_ret
                exact ⟨rfl, hA.same⟩
            · have hf' : fillOk l = false := by simpa using hf
              go_wp2_with fail
              refine (full_any l wr (by omega)).mono ?_
              rintro e w' ⟨rfl, rfl⟩
              rw [hf']
              go_wp2_with fail
              go_ret
              exact ⟨rfl, hA.same⟩
          · have w1 : ¬ (j : Int) < ls.length := by omega
            have hjl : j = ls.length := by omega
            subst hjl
            obtain ⟨hm, hx, hy, _, _, _, hgood⟩ := hA
            rw [List.take_length] at hx hy hgood
            obtain ⟨g1, c1, he1, _, _, hc1⟩ := ownsRow_form hx hp
            obtain ⟨g2, c2, he2, _, _, hc2⟩ := ownsRow_form hy hp
            cases he1
            cases he2
            have HX := Lib.hid (strsAt_row slT (c := c1) hc1)
            have HY := Lib.hid (strsAt_row escT (c := c2) hc2)
            have hb1 : (joinT (ls.map slT)).size ≤ 50000 := by
              have := joinT_bound 400 (ls.map slT) (fun x hx => by
                obtain ⟨t, ht, rfl⟩ := List.mem_map.1 hx
                obtain ⟨f1, f2, f3⟩ := hgood t ht
                exact (LineOk.mk f1 f2 f3).size)
              rw [List.length_map] at this
              omega
            have hb2 : (joinT (ls.map escT)).size ≤ 100000 := by
              have := joinT_bound 1200 (ls.map escT) (fun x hx => by
                obtain ⟨t, ht, rfl⟩ := List.mem_map.1 hx
                exact escT_size (hgood t ht).2.2)
              rw [List.length_map] at this
              omega
            have HWant := Lib.hid (lines_want ls)
            have HGood : Hid (∀ l ∈ ls, LineOk l) := fun l hl => by
              obtain ⟨f1, f2, f3⟩ := hgood l hl
              exact ⟨f1, f2, f3⟩
            clear hx hy hgood hc1 hc2 hsz
            go_wp2_with fail
            refine (plain_any wr).mono ?_
            rintro e w1 ⟨rfl, hm1⟩
            go_wp2_with fail
            refine (joined_any _ (ls.map slT) w1 (HX.out.same hm1) (by rw [List.length_map]; omega) (by omega)).mono ?_
            rintro e w' ⟨rfl, rfl⟩
            go_wp2_with fail
            refine (html_lines ls w1 hl (by omega) HGood.out).mono ?_
            rintro e w2 ⟨rfl, hm2⟩
            go_wp2_with fail
            refine (joined_any _ (ls.map escT) w2 ((HY.out.same hm1).same hm2) (by rw [List.length_map]; omega) (by omega)).mono ?_
            rintro e w' ⟨rfl, rfl⟩
            go_wp2_with fail
            go_ret
            refine ⟨congrArg (fun b => Ending.returned (.bool b)) ?_, (hm.trans hm1).trans hm2⟩
            rw [HWant.out]
            simp
  · have hfit' : fitsB ls = false := by simpa using hfit
    have HF := Lib.hid (zzFits2_any _ ls w h)
    clear h hfit
    go_enter Tryz.func8, Tryz.ntmps8
    go_wp2_with fail
    refine HF.out.mono ?_
    rintro e w' ⟨rfl, rfl⟩
    rw [hfit']
    go_wp2_with fail
    go_ret
    exact ⟨rfl, Mods.refl _ _⟩
end Go.Proofs.YtdnlfdppjfjncaaGreatDoor

/- A start that meets the rows' condition on the listed variables: the heap that the start-up leaves, the pinned table laid. -/
namespace Go.Proofs.YtdnlfdppjfjncaaGreatDoor
open Go Go.ChangeShapes Go.WideShapes Go.ChangeAt Go.RowKit

theorem knob : ownKnob Tryz.prog.godebug = none := by kernel_rfl

def laid8 : List (String × DataW Unit) := Rows.fnEscapedRow.laid

/-- The start. -/
noncomputable def laidW (os : Os) : World :=
  let w0 := World.doorLaid Tryz.prog 4000 os
  { w0 with heap := w0.heap.modify 2 fun
      | .cells _ t frozen => .cells (Pinned.utf8FirstZ.map fun z => Value.int .u8 (z : Nat)).toArray t frozen
      | o => o }
theorem laidW_met (os : Os) (args : Array Value) : laidMetH Tryz.prog laid8 ((laidW os).forCall (fun _ _ => 0) ⟨#[], args, []⟩).memory :=
  laidMetH_of_parts3 (fuel := 8) (laidMet_of_run' 8 (by kernel_rfl) (by kernel_rfl)) (by kernel_rfl) (by kernel_rfl)

theorem Mods.kept {S : Nat → Prop} {w w' : World} (h : Mods S w w') (hS : ∀ k, ¬ S k) (may : MemPlace → Prop) : w.keptBut w' may := by
  refine ⟨h.os, h.output, fun i hi => ?_⟩
  rw [h.block i hi (hS i)]
  cases w.heap[i]? with
  | none => rfl
  | some o =>
    cases o with
    | cells c t fr => exact ⟨rfl, rfl, rfl, fun _ _ => rfl⟩
    | map es ck => exact Or.inr ⟨rfl, rfl⟩
    | _ => rfl
end Go.Proofs.YtdnlfdppjfjncaaGreatDoor
