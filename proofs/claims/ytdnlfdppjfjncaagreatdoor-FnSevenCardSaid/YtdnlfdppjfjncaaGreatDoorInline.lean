/- inline on a text of plain bytes and escaped signs: the loop. -/
import Derived.Test.YtdnlfdppjfjncaaGreatDoorEsc
namespace Go.Proofs.YtdnlfdppjfjncaaGreatDoor
open Go Go.RowKit Go.Proofs

/-- A piece of a line. -/
inductive Pc | plain (s : ByteArray) | esc (s : ByteArray)

def PcAt (w : World) (x : Value) : Pc → Prop
  | .plain s => ∃ b, x = .iface 156 (.pointer (some ⟨b, 0, none⟩)) ∧ Blk w b #[.string s] 137
  | .esc s => ∃ b, x = .iface 176 (.pointer (some ⟨b, 0, none⟩)) ∧ Blk w b #[.string s] 178

def PcsAt (w : World) : List Value → List Pc → Prop
  | [], [] => True
  | x :: xs, p :: ps => PcAt w x p ∧ PcsAt w xs ps
  | _, _ => False

theorem PcAt.keep {w w' : World} {S : Nat → Prop} {x : Value} {p : Pc} (h : PcAt w x p) (hm : Mods S w w') (hS : ∀ b cs T, Blk w b cs T → T = 137 ∨ T = 178 → ¬ S b) : PcAt w' x p := by
  cases p with
  | plain s =>
    obtain ⟨b, hx, hb⟩ := h
    exact ⟨b, hx, hb.keep hm (hS b _ _ hb (Or.inl rfl))⟩
  | esc s =>
    obtain ⟨b, hx, hb⟩ := h
    exact ⟨b, hx, hb.keep hm (hS b _ _ hb (Or.inr rfl))⟩

theorem PcsAt.keep {w w' : World} {S : Nat → Prop} (hm : Mods S w w') (hS : ∀ b cs T, Blk w b cs T → T = 137 ∨ T = 178 → ¬ S b) :
    ∀ {xs : List Value} {ps : List Pc}, PcsAt w xs ps → PcsAt w' xs ps
  | [], [], _ => trivial
  | _ :: _, _ :: _, h => ⟨h.1.keep hm hS, PcsAt.keep hm hS h.2⟩
  | [], _ :: _, h => h.elim
  | _ :: _, [], h => h.elim

theorem PcsAt.snoc {w : World} {x : Value} {p : Pc} (hx : PcAt w x p) : ∀ {xs : List Value} {ps : List Pc}, PcsAt w xs ps → PcsAt w (xs ++ [x]) (ps ++ [p])
  | [], [], _ => ⟨hx, trivial⟩
  | _ :: _, _ :: _, h => ⟨h.1, PcsAt.snoc hx h.2⟩
  | [], _ :: _, h => h.elim
  | _ :: _, [], h => h.elim

theorem PcsAt.length {w : World} : ∀ {xs : List Value} {ps : List Pc}, PcsAt w xs ps → xs.length = ps.length
  | [], [], _ => rfl
  | _ :: _, _ :: _, h => congrArg (· + 1) (PcsAt.length h.2)
  | [], _ :: _, h => h.elim
  | _ :: _, [], h => h.elim

/-- No byte that begins a piece of its own. -/
def dull (c : UInt8) : Bool := !([92, 96, 60, 91, 33, 95, 42, 46, 45, 34, 39, 126, 10, 38, 58] : List UInt8).contains c

theorem dull_ne {c : UInt8} (h : dull c = true) (k : UInt8) (hk : ([92, 96, 60, 91, 33, 95, 42, 46, 45, 34, 39, 126, 10, 38, 58] : List UInt8).contains k = true) : ((c.toNat : Int) == (k.toNat : Int)) = false := by
  apply beq_eq_false_iff_ne.2
  intro he
  have : c = k := UInt8.toNat_inj.1 (by omega)
  subst this
  unfold dull at h
  rw [hk] at h
  cases h

/-- The text is made of dull bytes and of signs behind a backslash. -/
def Escd (s : ByteArray) (k : Nat) : Prop :=
  if h : k < s.size then
    (dull s[k] = true ∧ Escd s (k + 1)) ∨ (s[k] = 92 ∧ (∃ h' : k + 1 < s.size, punct s[k + 1] = true) ∧ Escd s (k + 2))
  else k = s.size
termination_by s.size - k

/-- The pieces of such a text from k on; from e on nothing has been emitted. -/
def scan (s : ByteArray) (k e : Nat) : List Pc :=
  if h : k < s.size then
    (if s[k] = 92 then (if e < k then [.plain (s.extract e k)] else []) ++ .esc (s.extract (k + 1) (k + 2)) :: scan s (k + 2) (k + 2) else scan s (k + 1) e)
  else (if e < k then [.plain (s.extract e k)] else [])
termination_by s.size - k

theorem as_openPlain_no (X : Nat) (v : Value) (w : World) : (Instr.typeAssert (.iface 176 v) X 134 true).run Tryz.prog w = .ok (.tuple #[.pointer none, .bool false]) w :=
  as_ptr_no _ 134 139 (by kernel_rfl) (fun _ => by kernel_rfl) X v w (by decide)
theorem eql_func_nil (n : Nat) (w : World) : (binOp .neq 130 (.func (.func n) #[] #[]) .nilFunc).run Tryz.prog w = .ok (.bool true) w := by kernel_rfl
theorem eql_nil_nil (w : World) : (binOp .neq 130 .nilFunc .nilFunc).run Tryz.prog w = .ok (.bool false) w := by kernel_rfl

/-- What the list of pieces is, seen from the world w0 in which inline began. -/
structure Held (w0 w : World) (bp : Nat) (p : PSt) (s : ByteArray) (e n : Nat) (lv : Value) (xs : List Value) (pcs : List Pc) : Prop where
  mods : Mods (fun b => b = bp) w0 w
  at_ : PsAt w bp { p with s := s, list := lv, emitted := ((e : Nat) : Int) }
  row : w.ownsRow 0 132 1 lv n xs
  pcs : PcsAt w xs pcs
  fresh : ∀ g, lv.ownBlock = some g → w0.heap.size ≤ g

theorem Held.same {w0 w w' : World} {bp : Nat} {p : PSt} {s : ByteArray} {e n : Nat} {lv : Value} {xs : List Value} {pcs : List Pc} (h : Held w0 w bp p s e n lv xs pcs) (hm : Same w w') : Held w0 w' bp p s e n lv xs pcs :=
  ⟨h.mods.then hm (fun _ _ x => absurd x (fun x => x)), h.at_.same hm, ownsRow_keep h.row hm (fun _ _ x => x), h.pcs.keep hm (fun _ _ _ _ _ x => x), h.fresh⟩

theorem pcs_safe {w : World} {bp n : Nat} {p : PSt} {lv : Value} {xs : List Value} (hp : PsAt w bp p) (hown : w.ownsRow 0 132 1 lv n xs) :
    ∀ b cs T, Blk w b cs T → T = 137 ∨ T = 178 → ¬ (b = bp ∨ lv.ownBlock = some b) := by
  intro b cs T hb hT h
  rcases h with h | h
  · obtain ⟨tail, htl⟩ := id hp
    exact hb.ne_of_type htl (by rcases hT with rfl | rfl <;> decide) h
  · exact own_ne hown hb (by rcases hT with rfl | rfl <;> decide) h

theorem emit_held {w0 w : World} {bp : Nat} {p : PSt} {s : ByteArray} {e n : Nat} {lv : Value} {xs : List Value} {pcs : List Pc} (h : Held w0 w bp p s e n lv xs pcs) (i : Nat) (he : e ≤ i) (hi : i ≤ s.size) (hs : s.size ≤ 1000000) (hn : n ≤ 1000000) :
    Calls Tryz.prog 87 #[.pointer (some ⟨bp, 0, none⟩), .int .i64 i] w fun e' w' => e' = .returned (.tuple #[]) ∧ ∃ n' lv' xs', n' ≤ n + 1 ∧ Mods (fun k => k = bp ∨ lv.ownBlock = some k) w w' ∧
      Held w0 w' bp p s i n' lv' xs' (pcs ++ (if e < i then [.plain (s.extract e i)] else [])) := by
  by_cases hlt : e < i
  · refine (emit_some bp n _ xs e i w h.at_ rfl hlt hi hs h.row hn).mono ?_
    rintro e' w' ⟨rfl, hm, g, cap, b, hp, hown, hb, hbn, hloc⟩
    refine ⟨rfl, n + 1, _, _, Nat.le_refl _, hm, ?_, hp, hown, ?_, ?_⟩
    · refine h.mods.then hm (fun b hb hh => ?_)
      rcases hh with hh | hh
      · exact hh
      · have := h.fresh b hh; omega
    · rw [if_pos hlt]
      exact PcsAt.snoc (p := .plain _) ⟨b, rfl, hb⟩ (h.pcs.keep hm (pcs_safe h.at_ h.row))
    · intro g' hg'
      cases hg'
      rcases hloc with hh | hh
      · exact h.fresh g hh
      · exact Nat.le_trans h.mods.size hh
  · have : e = i := by omega
    subst this
    refine (emit_none bp _ e e w h.at_ rfl (by omega)).mono ?_
    rintro e' w' ⟨rfl, rfl⟩
    refine ⟨rfl, n, lv, xs, by omega, Mods.refl _ _, ?_⟩
    rw [if_neg hlt, List.append_nil]
    exact h

theorem Held.push_at {w0 w w1 : World} {bp : Nat} {p : PSt} {s : ByteArray} {e n : Nat} {lv : Value} {xs : List Value} {pcs : List Pc} {o : Obj} (h : Held w0 w bp p s e n lv xs pcs) (hgrow : (w.alloc o).grownBy w1 lv.ownBlock) :
    w1.cell? ⟨bp, 9, none⟩ = some lv ∧ w1.frozen? ⟨bp, 9, none⟩ = false ∧ bp < w1.heap.size := by
  have h1 := h.same ((Mods.refl _ w).alloc o)
  have hp1 := h1.at_.keep (grown_mods hgrow) (fun x => own_ne_ps h1.row h1.at_ (by decide) x)
  exact ⟨hp1.list, hp1.fr 9, hp1.lt⟩

/-- A piece is put behind the others, and the list stored. -/
theorem Held.push {w0 w w1 : World} {bp : Nat} {p : PSt} {s t : ByteArray} {e n g cap b : Nat} {lv : Value} {xs : List Value} {pcs : List Pc} {o : Obj} (h : Held w0 w bp p s e n lv xs pcs)
    (hown1 : w1.ownsRow 0 132 1 (.slice (some ⟨g, 0, none⟩) (n + 1) cap) (n + 1) (xs ++ [.iface 176 (.pointer (some ⟨b, 0, none⟩))])) (hgrow : (w.alloc o).grownBy w1 lv.ownBlock) (hloc : lv.ownBlock = some g ∨ g = w.heap.size + 1)
    (hb : Blk w b #[.string t] 178) :
    Held w0 (w1.setCell ⟨bp, 9, none⟩ (.slice (some ⟨g, 0, none⟩) (n + 1) cap)) bp p s e (n + 1) (.slice (some ⟨g, 0, none⟩) (n + 1) cap) (xs ++ [.iface 176 (.pointer (some ⟨b, 0, none⟩))]) (pcs ++ [.esc t]) := by
  have hS : Same w (w.alloc o) := (Mods.refl _ w).alloc o
  have h1 := h.same hS
  have hmA := grown_mods hgrow
  have hnb : lv.ownBlock ≠ some bp := fun x => own_ne_ps h1.row h1.at_ (by decide) x
  have hp1 := h1.at_.keep hmA hnb
  have hx1 := h1.pcs.keep hmA (fun b cs T hb hT x => pcs_safe h1.at_ h1.row b cs T hb hT (Or.inr x))
  have hb1 := (hS.blk hb).keep hmA (fun x => pcs_safe h1.at_ h1.row b _ _ (hS.blk hb) (Or.inr rfl) (Or.inr x))
  have hm2 : Mods (fun k => k = bp) w1 (w1.setCell ⟨bp, 9, none⟩ (.slice (some ⟨g, 0, none⟩) (n + 1) cap)) := (Mods.refl (fun k => k = bp) w1).setCell (p := ⟨bp, 9, none⟩) (fun _ => rfl) _
  refine ⟨?_, hp1.set 9 _ _ rfl (by decide), ?_, ?_, ?_⟩
  · refine (h1.mods.then hmA (fun b hb hh => ?_)).then hm2 (fun _ _ x => x)
    have := h.fresh b hh; omega
  · exact ownsRow_keep hown1 hm2 (fun k hk he => own_ne_ps hown1 hp1 (by decide) (by rw [← he]; exact hk))
  · exact PcsAt.keep hm2 (fun b cs T hb hT x => pcs_safe hp1 hown1 b cs T hb hT (Or.inl x)) (PcsAt.snoc (p := .esc t) ⟨b, rfl, hb1⟩ hx1)
  · intro g' hg'
    cases hg'
    rcases hloc with hh | hh
    · exact h.fresh g hh
    · have := h.mods.size
      show w0.heap.size ≤ g
      omega

/-- The state of the loop. -/
structure Going (w0 w : World) (bp : Nat) (p : PSt) (s : ByteArray) (k : Nat) : Prop where
  good : Escd s k
  le : k ≤ s.size
  ex : ∃ e n lv xs pcs, e ≤ k ∧ n ≤ k ∧ Held w0 w bp p s e n lv xs pcs ∧ pcs ++ scan s k e = scan s 0 0

theorem Going.dull_step {w0 w : World} {bp : Nat} {p : PSt} {s : ByteArray} {k : Nat} (h : Going w0 w bp p s k) (hk : k < s.size) (hd : dull s[k] = true) : Going w0 w bp p s (k + 1) := by
  obtain ⟨hg, hl, e, n, lv, xs, pcs, he, hn, hh, hs⟩ := h
  have h92 : s[k] ≠ 92 := by intro h; rw [h] at hd; revert hd; decide
  refine ⟨?_, hk, e, n, lv, xs, pcs, by omega, by omega, hh, ?_⟩
  · rw [Escd, dif_pos hk] at hg
    rcases hg with h | h
    · exact h.2
    · exact absurd h.1 h92
  · rw [← hs, scan.eq_def s k e, dif_pos hk, if_neg h92]

theorem Going.cases {w0 w : World} {bp : Nat} {p : PSt} {s : ByteArray} {k : Nat} (h : Going w0 w bp p s k) :
    (∃ hk : k < s.size, dull s[k] = true) ∨ (∃ hk : k < s.size, s[k] = 92 ∧ (∃ h' : k + 1 < s.size, punct s[k + 1] = true) ∧ Escd s (k + 2)) ∨ k = s.size := by
  have hg := h.good
  rw [Escd] at hg
  split at hg
  · rename_i hk
    rcases hg with h | h
    · exact Or.inl ⟨hk, h.1⟩
    · exact Or.inr (Or.inl ⟨hk, h⟩)
  · exact Or.inr (Or.inr hg)

theorem Held.skipped {w0 w w' : World} {bp : Nat} {p : PSt} {s : ByteArray} {e e' n : Nat} {lv : Value} {xs : List Value} {pcs : List Pc} (h : Held w0 w bp p s e n lv xs pcs) (hm : Mods (fun k => k = bp) w w')
    (hp : PsAt w' bp { p with s := s, list := lv, emitted := ((e' : Nat) : Int) }) : Held w0 w' bp p s e' n lv xs pcs :=
  ⟨h.mods.then hm (fun _ _ x => x), hp, ownsRow_keep h.row hm (fun k hk x => own_ne_ps h.row h.at_ (by decide) (by rw [← x]; exact hk)), h.pcs.keep hm (fun b cs T hb hT x => pcs_safe h.at_ h.row b cs T hb hT (Or.inl x)), h.fresh⟩

theorem scan_esc {s : ByteArray} {k e : Nat} {pcs : List Pc} {all : List Pc} (hk : k < s.size) (h92 : s[k] = 92) (h : pcs ++ scan s k e = all) :
    (pcs ++ (if e < k then [Pc.plain (s.extract e k)] else [])) ++ [Pc.esc (s.extract (k + 1) (k + 2))] ++ scan s (k + 2) (k + 2) = all := by
  rw [← h, scan.eq_def s k e, dif_pos hk, if_pos h92]
  simp

theorem scan_end {s : ByteArray} {e : Nat} : scan s s.size e = if e < s.size then [Pc.plain (s.extract e s.size)] else [] := by
  rw [scan, dif_neg (Nat.lt_irrefl _)]
end Go.Proofs.YtdnlfdppjfjncaaGreatDoor
