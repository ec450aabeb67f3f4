/- Some texts of one proof, put into one file: Esc, Inline, InlG, Tr0, Merge, Merge2. -/
import Derived.Deep.RegionLaw
import Derived.Test.YtmmopoofheblbaaGreatDoorIm3
/- isPunct, parseEscape on a sign. -/
namespace Go.Proofs.YtmmopoofheblbaaGreatDoor
open Go Go.RowKit Go.Proofs

def punct (c : UInt8) : Bool := (33 ≤ c.toNat && c.toNat ≤ 47) || (58 ≤ c.toNat && c.toNat ≤ 64) || (91 ≤ c.toNat && c.toNat ≤ 96) || (123 ≤ c.toNat && c.toNat ≤ 126)

set_option maxHeartbeats 4000000 in
theorem isPunct_any (c : UInt8) (w : World) :
    Calls Tryz.prog 137 #[.int .u8 c.toNat] w fun e w' => e = .returned (.bool (punct c)) ∧ w = w' := by
  have hc : punct c = ((33 ≤ c.toNat && c.toNat ≤ 47) || (58 ≤ c.toNat && c.toNat ≤ 64) || (91 ≤ c.toNat && c.toNat ≤ 96) || (123 ≤ c.toNat && c.toNat ≤ 126)) := rfl
  generalize punct c = b at *
  have HC := Lib.hid hc
  clear hc
  go_enter Tryz.func137, Tryz.ntmps137
  go_wp2_with fail
  all_goals
    go_ret
    refine ⟨congrArg (fun b => Ending.returned (.bool b)) ?_, rfl⟩
    rw [HC.out, Bool.eq_iff_iff]
    simp
    omega

set_option maxHeartbeats 2000000 in
theorem parseEscape_punct (a : Value) (s : ByteArray) (i : Nat) (w : World) (hi : i + 1 < s.size) (hs : s.size ≤ 1000000) (hp : punct s[i + 1] = true) :
    Calls Tryz.prog 101 #[a, .string s, .int .i64 i] w fun e w' => ∃ b, e = .returned (.tuple #[.iface 220 (.pointer (some ⟨b, 0, none⟩)), .int .i64 i, .int .i64 (i + 2 : Nat), .bool true]) ∧
      Same w w' ∧ w.heap.size ≤ b ∧ Blk w' b #[.string (s.extract (i + 1) (i + 2))] 223 := by
  have w1 : IntKind.i64.wrap ((i : Int) + 1) = (i : Int) + 1 := IntWalk.i64_in _ (by omega)
  have w2 : IntKind.i64.wrap ((i : Int) + 2) = (i : Int) + 2 := IntWalk.i64_in _ (by omega)
  have w3 : (i : Int) + 1 < s.size := by omega
  have w4 : (0 : Int) ≤ (i : Int) + 1 := by omega
  have w5 : ((i : Int) + 1).toNat = i + 1 := by omega
  have w6 : ((i : Int) + 2).toNat = i + 2 := by omega
  have w7 : (i : Int) + 1 ≤ (i : Int) + 2 := by omega
  have w8 : (i : Int) + 2 ≤ s.size := by omega
  go_enter Tryz.func101, Tryz.ntmps101
  go_wp2_with fail
  refine (isPunct_any _ w).mono ?_
  rintro e w' ⟨rfl, rfl⟩
  rw [hp]
  go_wp2_with fail
  try rw [Exit.noGoto_ret]
  refine bodyPost_ret (v := .tuple #[.iface 220 (.pointer (some ⟨w.heap.size, 0, none⟩)), .int .i64 i, .int .i64 (i + 2 : Nat), .bool true]) (by simp [results, Tryz.results101, go_sem]) rfl ?_
  exact ⟨_, rfl, (Mods.refl _ w).alloc _, Nat.le_refl _, Blk.newAt _ _ rfl⟩
end Go.Proofs.YtmmopoofheblbaaGreatDoor

/- inline on a text of plain bytes and escaped signs: the loop. -/
namespace Go.Proofs.YtmmopoofheblbaaGreatDoor
open Go Go.RowKit Go.Proofs

/-- A piece of a line. -/
inductive Pc | plain (s : ByteArray) | esc (s : ByteArray) | soft | auto (t u : ByteArray) | tag (s : ByteArray)

/-- The type of the pointer in the list, that of its block, and what the block holds. -/
def Pc.ty : Pc → Nat
  | .plain _ => 224
  | .esc _ => 220
  | .soft => 193
  | .auto _ _ => 207
  | .tag _ => 212
def Pc.bty : Pc → Nat
  | .plain _ => 221
  | .esc _ => 223
  | .soft => 194
  | .auto _ _ => 209
  | .tag _ => 213
def Pc.cells : Pc → Array Value
  | .plain s => #[.string s]
  | .esc s => #[.string s]
  | .soft => #[]
  | .auto t u => #[.string t, .string u]
  | .tag s => #[.string s]

/-- A type of a piece's block. -/
def PcTy (T : Nat) : Prop := T = 221 ∨ T = 223 ∨ T = 194 ∨ T = 209 ∨ T = 213
theorem Pc.bty_is (p : Pc) : PcTy p.bty := by
  cases p
  · exact Or.inl rfl
  · exact Or.inr (Or.inl rfl)
  · exact Or.inr (Or.inr (Or.inl rfl))
  · exact Or.inr (Or.inr (Or.inr (Or.inl rfl)))
  · exact Or.inr (Or.inr (Or.inr (Or.inr rfl)))
theorem PcTy.ne {T U : Nat} (h : PcTy T) (h1 : 221 ≠ U) (h2 : 223 ≠ U) (h3 : 194 ≠ U) (h4 : 209 ≠ U) (h5 : 213 ≠ U) : T ≠ U := by
  rcases h with rfl | rfl | rfl | rfl | rfl <;> assumption

def PcAt (w : World) (x : Value) (p : Pc) : Prop := ∃ b, x = .iface p.ty (.pointer (some ⟨b, 0, none⟩)) ∧ Blk w b p.cells p.bty

def PcsAt (w : World) : List Value → List Pc → Prop
  | [], [] => True
  | x :: xs, p :: ps => PcAt w x p ∧ PcsAt w xs ps
  | _, _ => False

theorem PcAt.keep {w w' : World} {S : Nat → Prop} {x : Value} {p : Pc} (h : PcAt w x p) (hm : Mods S w w') (hS : ∀ b cs T, Blk w b cs T → PcTy T → ¬ S b) : PcAt w' x p := by
  obtain ⟨b, hx, hb⟩ := h
  exact ⟨b, hx, hb.keep hm (hS b _ _ hb p.bty_is)⟩

theorem PcsAt.keep {w w' : World} {S : Nat → Prop} (hm : Mods S w w') (hS : ∀ b cs T, Blk w b cs T → PcTy T → ¬ S b) :
    ∀ {xs : List Value} {ps : List Pc}, PcsAt w xs ps → PcsAt w' xs ps
  | [], [], _ => trivial
  | _ :: _, _ :: _, h => ⟨h.1.keep hm hS, PcsAt.keep hm hS h.2⟩
  | [], _ :: _, h => h.elim
  | _ :: _, [], h => h.elim

theorem PcsAt.snoc {w : World} {x : Value} {p : Pc} (hx : PcAt w x p) : ∀ {xs : List Value} {ps : List Pc}, PcsAt w xs ps → PcsAt w (xs ++ [x]) (ps ++ [p])
  | [], [], _ => ⟨hx, trivial⟩
  | _ :: _, _ :: _, h => ⟨h.1, PcsAt.snoc hx h.2⟩
  | [], _ :: _, h => h.elim
  | _ :: _, [], h => h.elim

theorem PcsAt.length {w : World} : ∀ {xs : List Value} {ps : List Pc}, PcsAt w xs ps → xs.length = ps.length
  | [], [], _ => rfl
  | _ :: _, _ :: _, h => congrArg (· + 1) (PcsAt.length h.2)
  | [], _ :: _, h => h.elim
  | _ :: _, [], h => h.elim

/-- No byte that begins a piece of its own. -/
def dull (c : UInt8) : Bool := !([92, 96, 60, 91, 33, 95, 42, 46, 45, 34, 39, 126, 10, 38, 58] : List UInt8).contains c

theorem dull_ne {c : UInt8} (h : dull c = true) (k : UInt8) (hk : ([92, 96, 60, 91, 33, 95, 42, 46, 45, 34, 39, 126, 10, 38, 58] : List UInt8).contains k = true) : ((c.toNat : Int) == (k.toNat : Int)) = false := by
  apply beq_eq_false_iff_ne.2
  intro he
  have : c = k := UInt8.toNat_inj.1 (by omega)
  subst this
  unfold dull at h
  rw [hk] at h
  cases h

theorem Pc.ty_open (p : Pc) : p.ty ≠ 228 := by cases p <;> simp [Pc.ty]
theorem Pc.ty_emph (p : Pc) : p.ty ≠ 266 := by cases p <;> simp [Pc.ty]
theorem as_openPlain_no (p : Pc) (X : Nat) (v : Value) (w : World) : (Instr.typeAssert (.iface p.ty v) X 228 true).run Tryz.prog w = .ok (.tuple #[.pointer none, .bool false]) w :=
  as_ptr_no _ 228 231 (by kernel_rfl) (fun _ => by kernel_rfl) X v w p.ty_open
theorem eql_func_nil (n : Nat) (w : World) : (binOp .neq 226 (.func (.func n) #[] #[]) .nilFunc).run Tryz.prog w = .ok (.bool true) w := by kernel_rfl
theorem eql_nil_nil (w : World) : (binOp .neq 226 .nilFunc .nilFunc).run Tryz.prog w = .ok (.bool false) w := by kernel_rfl

/-- What the list of pieces is, seen from the world w0 in which inline began. -/
structure Held (w0 w : World) (bp : Nat) (p : PSt) (s : ByteArray) (e n : Nat) (lv : Value) (xs : List Value) (pcs : List Pc) : Prop where
  mods : Mods (fun b => b = bp) w0 w
  at_ : PsAt w bp { p with s := s, list := lv, emitted := ((e : Nat) : Int) }
  row : w.ownsRow 0 157 1 lv n xs
  pcs : PcsAt w xs pcs
  fresh : ∀ g, lv.ownBlock = some g → w0.heap.size ≤ g

theorem Held.same {w0 w w' : World} {bp : Nat} {p : PSt} {s : ByteArray} {e n : Nat} {lv : Value} {xs : List Value} {pcs : List Pc} (h : Held w0 w bp p s e n lv xs pcs) (hm : Same w w') : Held w0 w' bp p s e n lv xs pcs :=
  ⟨h.mods.then hm (fun _ _ x => absurd x (fun x => x)), h.at_.same hm, ownsRow_keep h.row hm (fun _ _ x => x), h.pcs.keep hm (fun _ _ _ _ _ x => x), h.fresh⟩

theorem pcs_safe {w : World} {bp n : Nat} {p : PSt} {lv : Value} {xs : List Value} (hp : PsAt w bp p) (hown : w.ownsRow 0 157 1 lv n xs) :
    ∀ b cs T, Blk w b cs T → PcTy T → ¬ (b = bp ∨ lv.ownBlock = some b) := by
  intro b cs T hb hT h
  rcases h with h | h
  · obtain ⟨tail, htl⟩ := id hp
    exact hb.ne_of_type htl (hT.ne (by decide) (by decide) (by decide) (by decide) (by decide)) h
  · exact own_ne hown hb (hT.ne (by decide) (by decide) (by decide) (by decide) (by decide)) h

theorem emit_held {w0 w : World} {bp : Nat} {p : PSt} {s : ByteArray} {e n : Nat} {lv : Value} {xs : List Value} {pcs : List Pc} (h : Held w0 w bp p s e n lv xs pcs) (i : Nat) (he : e ≤ i) (hi : i ≤ s.size) (hs : s.size ≤ 1000000) (hn : n ≤ 1000000) :
    Calls Tryz.prog 113 #[.pointer (some ⟨bp, 0, none⟩), .int .i64 i] w fun e' w' => e' = .returned (.tuple #[]) ∧ ∃ n' lv' xs', n' ≤ n + 1 ∧ Mods (fun k => k = bp ∨ lv.ownBlock = some k) w w' ∧
      Held w0 w' bp p s i n' lv' xs' (pcs ++ (if e < i then [.plain (s.extract e i)] else [])) := by
  by_cases hlt : e < i
  · refine (emit_some bp n _ xs e i w h.at_ rfl hlt hi hs h.row hn).mono ?_
    rintro e' w' ⟨rfl, hm, g, cap, b, hp, hown, hb, hbn, hloc⟩
    refine ⟨rfl, n + 1, _, _, Nat.le_refl _, hm, ?_, hp, hown, ?_, ?_⟩
    · refine h.mods.then hm (fun b hb hh => ?_)
      rcases hh with hh | hh
      · exact hh
      · have := h.fresh b hh; omega
    · rw [if_pos hlt]
      exact PcsAt.snoc (p := .plain (s.extract e i)) ⟨b, rfl, hb⟩ (h.pcs.keep hm (pcs_safe h.at_ h.row))
    · intro g' hg'
      cases hg'
      rcases hloc with hh | hh
      · exact h.fresh g hh
      · exact Nat.le_trans h.mods.size hh
  · have : e = i := by omega
    subst this
    refine (emit_none bp _ e e w h.at_ rfl (by omega)).mono ?_
    rintro e' w' ⟨rfl, rfl⟩
    refine ⟨rfl, n, lv, xs, by omega, Mods.refl _ _, ?_⟩
    rw [if_neg hlt, List.append_nil]
    exact h

theorem Held.push_at {w0 w w1 : World} {bp : Nat} {p : PSt} {s : ByteArray} {e n : Nat} {lv : Value} {xs : List Value} {pcs : List Pc} {o : Obj} (h : Held w0 w bp p s e n lv xs pcs) (hgrow : (w.alloc o).grownBy w1 lv.ownBlock) :
    w1.cell? ⟨bp, 9, none⟩ = some lv ∧ w1.frozen? ⟨bp, 9, none⟩ = false ∧ bp < w1.heap.size := by
  have h1 := h.same ((Mods.refl _ w).alloc o)
  have hp1 := h1.at_.keep (grown_mods hgrow) (fun x => own_ne_ps h1.row h1.at_ (by decide) x)
  exact ⟨hp1.list, hp1.fr 9, hp1.lt⟩

/-- A piece is put behind the others, and the list stored. -/
theorem Held.push {w0 w w1 : World} {bp : Nat} {p : PSt} {s : ByteArray} {e n g cap b : Nat} {lv : Value} {xs : List Value} {pcs : List Pc} {o : Obj} {pc : Pc} (h : Held w0 w bp p s e n lv xs pcs)
    (hown1 : w1.ownsRow 0 157 1 (.slice (some ⟨g, 0, none⟩) (n + 1) cap) (n + 1) (xs ++ [.iface pc.ty (.pointer (some ⟨b, 0, none⟩))])) (hgrow : (w.alloc o).grownBy w1 lv.ownBlock) (hloc : lv.ownBlock = some g ∨ g = w.heap.size + 1)
    (hb : Blk w b pc.cells pc.bty) :
    Held w0 (w1.setCell ⟨bp, 9, none⟩ (.slice (some ⟨g, 0, none⟩) (n + 1) cap)) bp p s e (n + 1) (.slice (some ⟨g, 0, none⟩) (n + 1) cap) (xs ++ [.iface pc.ty (.pointer (some ⟨b, 0, none⟩))]) (pcs ++ [pc]) := by
  have hS : Same w (w.alloc o) := (Mods.refl _ w).alloc o
  have h1 := h.same hS
  have hmA := grown_mods hgrow
  have hnb : lv.ownBlock ≠ some bp := fun x => own_ne_ps h1.row h1.at_ (by decide) x
  have hp1 := h1.at_.keep hmA hnb
  have hx1 := h1.pcs.keep hmA (fun b cs T hb hT x => pcs_safe h1.at_ h1.row b cs T hb hT (Or.inr x))
  have hb1 := (hS.blk hb).keep hmA (fun x => pcs_safe h1.at_ h1.row b _ _ (hS.blk hb) pc.bty_is (Or.inr x))
  have hm2 : Mods (fun k => k = bp) w1 (w1.setCell ⟨bp, 9, none⟩ (.slice (some ⟨g, 0, none⟩) (n + 1) cap)) := (Mods.refl (fun k => k = bp) w1).setCell (p := ⟨bp, 9, none⟩) (fun _ => rfl) _
  refine ⟨?_, hp1.set 9 _ _ rfl (by decide), ?_, ?_, ?_⟩
  · refine (h1.mods.then hmA (fun b hb hh => ?_)).then hm2 (fun _ _ x => x)
    have := h.fresh b hh; omega
  · exact ownsRow_keep hown1 hm2 (fun k hk he => own_ne_ps hown1 hp1 (by decide) (by rw [← he]; exact hk))
  · exact PcsAt.keep hm2 (fun b cs T hb hT x => pcs_safe hp1 hown1 b cs T hb hT (Or.inl x)) (PcsAt.snoc (p := pc) ⟨b, rfl, hb1⟩ hx1)
  · intro g' hg'
    cases hg'
    rcases hloc with hh | hh
    · exact h.fresh g hh
    · have := h.mods.size
      show w0.heap.size ≤ g
      omega

/-- What the call of a piece's function gives. -/
def PieceCall (s : ByteArray) (k fn : Nat) (pc : Pc) (st en : Nat) : Prop :=
  ∀ (bp : Nat) (q : PSt) (W : World), PsAt W bp q →
    Calls Tryz.prog fn #[.pointer (some ⟨bp, 0, none⟩), .string s, .int .i64 k] W fun e w' => ∃ b c, e = .returned (.tuple #[.iface pc.ty (.pointer (some ⟨b, 0, none⟩)), .int .i64 st, .int .i64 en, .bool true]) ∧
      Mods (fun k => k = bp) W w' ∧ PsAt w' bp { q with corner := c } ∧ W.heap.size ≤ b ∧ Blk w' b pc.cells pc.bty

/-- The bytes that begin a piece, and the function that reads it. -/
def Starts (c : UInt8) (fn : Nat) : Prop :=
  (c = 92 ∧ fn = 101) ∨ (c = 60 ∧ fn = 104) ∨ (c = 10 ∧ fn = 110)

/-- How a text is read from place k on, if nothing has been emitted from e on: into these pieces. -/
inductive Plan (s : ByteArray) : Nat → Nat → List Pc → Prop
  | fin (e : Nat) : Plan s s.size e (if e < s.size then [.plain (s.extract e s.size)] else [])
  | dull {k e : Nat} {r : List Pc} (hk : k < s.size) (hd : dull s[k] = true) (h : Plan s (k + 1) e r) : Plan s k e r
  | piece {k e : Nat} {r : List Pc} (hk : k < s.size) (fn : Nat) (hb : Starts s[k] fn) (pc : Pc) (st en : Nat) (h1 : e ≤ st) (h2 : st ≤ k) (h3 : k < en) (h4 : en ≤ s.size) (hc : PieceCall s k fn pc st en) (ho : ∀ t, pc ≠ .plain t)
      (h : Plan s en en r) : Plan s k e ((if e < st then [.plain (s.extract e st)] else []) ++ pc :: r)

/-- The state of the loop. -/
def Going (w0 w : World) (bp : Nat) (p : PSt) (s : ByteArray) (all : List Pc) (k : Nat) : Prop :=
  k ≤ s.size ∧ ∃ c e n lv xs pcs r, e ≤ k ∧ n ≤ e ∧ Held w0 w bp { p with corner := c } s e n lv xs pcs ∧ Plan s k e r ∧ pcs ++ r = all

theorem Held.skipped {w0 w w' : World} {bp : Nat} {p : PSt} {s : ByteArray} {e e' n : Nat} {lv : Value} {xs : List Value} {pcs : List Pc} (h : Held w0 w bp p s e n lv xs pcs) (hm : Mods (fun k => k = bp) w w')
    (hp : PsAt w' bp { p with s := s, list := lv, emitted := ((e' : Nat) : Int) }) : Held w0 w' bp p s e' n lv xs pcs :=
  ⟨h.mods.then hm (fun _ _ x => x), hp, ownsRow_keep h.row hm (fun k hk x => own_ne_ps h.row h.at_ (by decide) (by rw [← x]; exact hk)), h.pcs.keep hm (fun b cs T hb hT x => pcs_safe h.at_ h.row b cs T hb hT (Or.inl x)), h.fresh⟩

/-- A call that changes the parser's mark of a corner case alone. -/
theorem Held.cornered {w0 w w' : World} {bp : Nat} {p : PSt} {s : ByteArray} {e n : Nat} {lv : Value} {xs : List Value} {pcs : List Pc} {c : Bool} (h : Held w0 w bp p s e n lv xs pcs) (hm : Mods (fun k => k = bp) w w')
    (hp : PsAt w' bp { ({ p with s := s, list := lv, emitted := ((e : Nat) : Int) } : PSt) with corner := c }) : Held w0 w' bp { p with corner := c } s e n lv xs pcs :=
  ⟨h.mods.then hm (fun _ _ x => x), hp, ownsRow_keep h.row hm (fun k hk x => own_ne_ps h.row h.at_ (by decide) (by rw [← x]; exact hk)), h.pcs.keep hm (fun b cs T hb hT x => pcs_safe h.at_ h.row b cs T hb hT (Or.inl x)), h.fresh⟩
end Go.Proofs.YtmmopoofheblbaaGreatDoor

/- inline on a text of pieces of any kind: what the loop holds. -/
namespace Go.Proofs.YtmmopoofheblbaaGreatDoor.G
open Go Go.RowKit Go.Proofs

/-- A piece of a line: the type of the pointer in the list, that of its block, and what the block holds. -/
structure Pc where
  ty : Nat
  bty : Nat
  cells : Array Value
def Pc.plain (t : ByteArray) : Pc := ⟨224, 221, #[.string t]⟩

/-- A type of a piece's block. -/
def PcTy (T : Nat) : Prop := T ≠ 167 ∧ T ≠ 157
structure Pc.Ok (p : Pc) : Prop where
  open_ : p.ty ≠ 228
  bty_is : PcTy p.bty
theorem plain_ok (t : ByteArray) : (Pc.plain t).Ok := ⟨by show 224 ≠ 228; decide, by show 221 ≠ 167; decide, by show 221 ≠ 157; decide⟩

def PcAt (w : World) (x : Value) (p : Pc) : Prop := p.Ok ∧ ∃ b, x = .iface p.ty (.pointer (some ⟨b, 0, none⟩)) ∧ Blk w b p.cells p.bty

def PcsAt (w : World) : List Value → List Pc → Prop
  | [], [] => True
  | x :: xs, p :: ps => PcAt w x p ∧ PcsAt w xs ps
  | _, _ => False

theorem PcAt.keep {w w' : World} {S : Nat → Prop} {x : Value} {p : Pc} (h : PcAt w x p) (hm : Mods S w w') (hS : ∀ b cs T, Blk w b cs T → PcTy T → ¬ S b) : PcAt w' x p := by
  obtain ⟨ho, b, hx, hb⟩ := h
  exact ⟨ho, b, hx, hb.keep hm (hS b _ _ hb ho.bty_is)⟩

theorem PcsAt.keep {w w' : World} {S : Nat → Prop} (hm : Mods S w w') (hS : ∀ b cs T, Blk w b cs T → PcTy T → ¬ S b) :
    ∀ {xs : List Value} {ps : List Pc}, PcsAt w xs ps → PcsAt w' xs ps
  | [], [], _ => trivial
  | _ :: _, _ :: _, h => ⟨h.1.keep hm hS, PcsAt.keep hm hS h.2⟩
  | [], _ :: _, h => h.elim
  | _ :: _, [], h => h.elim

theorem PcsAt.snoc {w : World} {x : Value} {p : Pc} (hx : PcAt w x p) : ∀ {xs : List Value} {ps : List Pc}, PcsAt w xs ps → PcsAt w (xs ++ [x]) (ps ++ [p])
  | [], [], _ => ⟨hx, trivial⟩
  | _ :: _, _ :: _, h => ⟨h.1, PcsAt.snoc hx h.2⟩
  | [], _ :: _, h => h.elim
  | _ :: _, [], h => h.elim

theorem PcsAt.length {w : World} : ∀ {xs : List Value} {ps : List Pc}, PcsAt w xs ps → xs.length = ps.length
  | [], [], _ => rfl
  | _ :: _, _ :: _, h => congrArg (· + 1) (PcsAt.length h.2)
  | [], _ :: _, h => h.elim
  | _ :: _, [], h => h.elim

/-- What the list of pieces is, seen from the world w0 in which inline began. -/
structure Held (w0 w : World) (bp : Nat) (p : PSt) (s : ByteArray) (e n : Nat) (lv : Value) (xs : List Value) (pcs : List Pc) : Prop where
  mods : Mods (fun b => b = bp) w0 w
  at_ : PsAt w bp { p with s := s, list := lv, emitted := ((e : Nat) : Int) }
  row : w.ownsRow 0 157 1 lv n xs
  pcs : PcsAt w xs pcs
  fresh : ∀ g, lv.ownBlock = some g → w0.heap.size ≤ g
  new : ∀ x ∈ xs, ∀ T b, x = .iface T (.pointer (some ⟨b, 0, none⟩)) → w0.heap.size ≤ b

theorem new_snoc {w0 : World} {xs : List Value} {T0 b0 : Nat} (h : ∀ x ∈ xs, ∀ T b, x = .iface T (.pointer (some ⟨b, 0, none⟩)) → w0.heap.size ≤ b) (hb : w0.heap.size ≤ b0) : ∀ x ∈ xs ++ [.iface T0 (.pointer (some ⟨b0, 0, none⟩))], ∀ T b, x = .iface T (.pointer (some ⟨b, 0, none⟩)) → w0.heap.size ≤ b := by
  intro x hx T b he
  rcases List.mem_append.1 hx with h1 | h1
  · exact h x h1 T b he
  · have h2 := (List.mem_singleton.1 h1).symm.trans he
    cases h2
    exact hb

theorem Held.same {w0 w w' : World} {bp : Nat} {p : PSt} {s : ByteArray} {e n : Nat} {lv : Value} {xs : List Value} {pcs : List Pc} (h : Held w0 w bp p s e n lv xs pcs) (hm : Same w w') : Held w0 w' bp p s e n lv xs pcs :=
  ⟨h.mods.then hm (fun _ _ x => absurd x (fun x => x)), h.at_.same hm, ownsRow_keep h.row hm (fun _ _ x => x), h.pcs.keep hm (fun _ _ _ _ _ x => x), h.fresh, h.new⟩

theorem pcs_safe {w : World} {bp n : Nat} {p : PSt} {lv : Value} {xs : List Value} (hp : PsAt w bp p) (hown : w.ownsRow 0 157 1 lv n xs) :
    ∀ b cs T, Blk w b cs T → PcTy T → ¬ (b = bp ∨ lv.ownBlock = some b) := by
  intro b cs T hb hT h
  rcases h with h | h
  · obtain ⟨tail, htl⟩ := id hp
    exact hb.ne_of_type htl hT.1 h
  · exact own_ne hown hb hT.2 h

theorem emit_held {w0 w : World} {bp : Nat} {p : PSt} {s : ByteArray} {e n : Nat} {lv : Value} {xs : List Value} {pcs : List Pc} (h : Held w0 w bp p s e n lv xs pcs) (i : Nat) (he : e ≤ i) (hi : i ≤ s.size) (hs : s.size ≤ 1000000) (hn : n ≤ 1000000) :
    Calls Tryz.prog 113 #[.pointer (some ⟨bp, 0, none⟩), .int .i64 i] w fun e' w' => e' = .returned (.tuple #[]) ∧ ∃ n' lv' xs', n' ≤ n + 1 ∧ Mods (fun k => k = bp ∨ lv.ownBlock = some k) w w' ∧
      Held w0 w' bp p s i n' lv' xs' (pcs ++ (if e < i then [.plain (s.extract e i)] else [])) := by
  by_cases hlt : e < i
  · refine (emit_some bp n _ xs e i w h.at_ rfl hlt hi hs h.row hn).mono ?_
    rintro e' w' ⟨rfl, hm, g, cap, b, hp, hown, hb, hbn, hloc⟩
    refine ⟨rfl, n + 1, _, _, Nat.le_refl _, hm, ?_, hp, hown, ?_, ?_, ?_⟩
    · refine h.mods.then hm (fun b hb hh => ?_)
      rcases hh with hh | hh
      · exact hh
      · have := h.fresh b hh; omega
    · rw [if_pos hlt]
      exact PcsAt.snoc (p := .plain (s.extract e i)) ⟨plain_ok _, b, rfl, hb⟩ (h.pcs.keep hm (pcs_safe h.at_ h.row))
    · intro g' hg'
      cases hg'
      rcases hloc with hh | hh
      · exact h.fresh g hh
      · exact Nat.le_trans h.mods.size hh
    · exact new_snoc h.new (Nat.le_trans h.mods.size hbn)
  · have : e = i := by omega
    subst this
    refine (emit_none bp _ e e w h.at_ rfl (by omega)).mono ?_
    rintro e' w' ⟨rfl, rfl⟩
    refine ⟨rfl, n, lv, xs, by omega, Mods.refl _ _, ?_⟩
    rw [if_neg hlt, List.append_nil]
    exact h

theorem Held.push_at {w0 w w1 : World} {bp : Nat} {p : PSt} {s : ByteArray} {e n : Nat} {lv : Value} {xs : List Value} {pcs : List Pc} {o : Obj} (h : Held w0 w bp p s e n lv xs pcs) (hgrow : (w.alloc o).grownBy w1 lv.ownBlock) :
    w1.cell? ⟨bp, 9, none⟩ = some lv ∧ w1.frozen? ⟨bp, 9, none⟩ = false ∧ bp < w1.heap.size := by
  have h1 := h.same ((Mods.refl _ w).alloc o)
  have hp1 := h1.at_.keep (grown_mods hgrow) (fun x => own_ne_ps h1.row h1.at_ (by decide) x)
  exact ⟨hp1.list, hp1.fr 9, hp1.lt⟩

/-- A piece is put behind the others, and the list stored. -/
theorem Held.push {w0 w w1 : World} {bp : Nat} {p : PSt} {s : ByteArray} {e n g cap b : Nat} {lv : Value} {xs : List Value} {pcs : List Pc} {o : Obj} {pc : Pc} (h : Held w0 w bp p s e n lv xs pcs)
    (hown1 : w1.ownsRow 0 157 1 (.slice (some ⟨g, 0, none⟩) (n + 1) cap) (n + 1) (xs ++ [.iface pc.ty (.pointer (some ⟨b, 0, none⟩))])) (hgrow : (w.alloc o).grownBy w1 lv.ownBlock) (hloc : lv.ownBlock = some g ∨ g = w.heap.size + 1)
    (hok : pc.Ok) (hbn : w0.heap.size ≤ b) (hb : Blk w b pc.cells pc.bty) :
    Held w0 (w1.setCell ⟨bp, 9, none⟩ (.slice (some ⟨g, 0, none⟩) (n + 1) cap)) bp p s e (n + 1) (.slice (some ⟨g, 0, none⟩) (n + 1) cap) (xs ++ [.iface pc.ty (.pointer (some ⟨b, 0, none⟩))]) (pcs ++ [pc]) := by
  have hS : Same w (w.alloc o) := (Mods.refl _ w).alloc o
  have h1 := h.same hS
  have hmA := grown_mods hgrow
  have hnb : lv.ownBlock ≠ some bp := fun x => own_ne_ps h1.row h1.at_ (by decide) x
  have hp1 := h1.at_.keep hmA hnb
  have hx1 := h1.pcs.keep hmA (fun b cs T hb hT x => pcs_safe h1.at_ h1.row b cs T hb hT (Or.inr x))
  have hb1 := (hS.blk hb).keep hmA (fun x => pcs_safe h1.at_ h1.row b _ _ (hS.blk hb) hok.bty_is (Or.inr x))
  have hm2 : Mods (fun k => k = bp) w1 (w1.setCell ⟨bp, 9, none⟩ (.slice (some ⟨g, 0, none⟩) (n + 1) cap)) := (Mods.refl (fun k => k = bp) w1).setCell (p := ⟨bp, 9, none⟩) (fun _ => rfl) _
  refine ⟨?_, hp1.set 9 _ _ rfl (by decide), ?_, ?_, ?_, new_snoc h.new hbn⟩
  · refine (h1.mods.then hmA (fun b hb hh => ?_)).then hm2 (fun _ _ x => x)
    have := h.fresh b hh; omega
  · exact ownsRow_keep hown1 hm2 (fun k hk he => own_ne_ps hown1 hp1 (by decide) (by rw [← he]; exact hk))
  · exact PcsAt.keep hm2 (fun b cs T hb hT x => pcs_safe hp1 hown1 b cs T hb hT (Or.inl x)) (PcsAt.snoc (p := pc) ⟨hok, b, rfl, hb1⟩ hx1)
  · intro g' hg'
    cases hg'
    rcases hloc with hh | hh
    · exact h.fresh g hh
    · have := h.mods.size
      show w0.heap.size ≤ g
      omega

/-- What the call of a piece's function gives. -/
def PieceCall (s : ByteArray) (k fn : Nat) (pc : Pc) (st en : Nat) : Prop :=
  ∀ (bp : Nat) (q : PSt) (W : World), PsAt W bp q →
    Calls Tryz.prog fn #[.pointer (some ⟨bp, 0, none⟩), .string s, .int .i64 k] W fun e w' => ∃ b c, e = .returned (.tuple #[.iface pc.ty (.pointer (some ⟨b, 0, none⟩)), .int .i64 st, .int .i64 en, .bool true]) ∧
      Mods (fun k => k = bp) W w' ∧ PsAt w' bp { q with corner := c } ∧ W.heap.size ≤ b ∧ Blk w' b pc.cells pc.bty

/-- Options: strikethrough, smart quotes. -/
structure Op where
  strike : Bool
  quote : Bool
structure OpAt (w : World) (p : PSt) (o : Op) : Prop where
  s : Opt w p 1 o.strike
  q : Opt w p 9 o.quote
theorem OpAt.keep {w w' : World} {p : PSt} {o : Op} {S : Nat → Prop} (h : OpAt w p o) (hm : Mods S w w') (hS : ¬ S p.parser) : OpAt w' p o := ⟨h.s.keep hm hS, h.q.keep hm hS⟩

/-- The bytes that begin a piece, and the function that reads it. -/
def Starts (o : Op) (c : UInt8) (fn : Nat) : Prop :=
  (c = 92 ∧ fn = 101) ∨ (c = 60 ∧ fn = 104) ∨ (c = 10 ∧ fn = 110) ∨
  (c = 126 ∧ fn = 107 ∧ o.strike = true) ∨ (c = 34 ∧ fn = 107 ∧ o.quote = true) ∨ (c = 39 ∧ fn = 107 ∧ o.quote = true)
/-- The bytes that begin none. -/
def Idle (o : Op) (c : UInt8) : Prop := dull c = true ∨ (c = 126 ∧ o.strike = false) ∨ (c = 34 ∧ o.quote = false) ∨ (c = 39 ∧ o.quote = false)

/-- How a text is read from place k on, if nothing has been emitted from e on: into these pieces. -/
inductive Plan (o : Op) (s : ByteArray) : Nat → Nat → List Pc → Prop
  | fin (e : Nat) : Plan o s s.size e (if e < s.size then [.plain (s.extract e s.size)] else [])
  | dull {k e : Nat} {r : List Pc} (hk : k < s.size) (hd : Idle o s[k]) (h : Plan o s (k + 1) e r) : Plan o s k e r
  | piece {k e : Nat} {r : List Pc} (hk : k < s.size) (fn : Nat) (hb : Starts o s[k] fn) (pc : Pc) (st en : Nat) (h1 : e ≤ st) (h2 : st ≤ k) (h3 : k < en) (h4 : en ≤ s.size) (hc : PieceCall s k fn pc st en) (ho : pc.Ok)
      (h : Plan o s en en r) : Plan o s k e ((if e < st then [.plain (s.extract e st)] else []) ++ pc :: r)

/-- The state of the loop. -/
def Going (o : Op) (w0 w : World) (bp : Nat) (p : PSt) (s : ByteArray) (all : List Pc) (k : Nat) : Prop :=
  k ≤ s.size ∧ ∃ c e n lv xs pcs r, e ≤ k ∧ n ≤ e ∧ Held w0 w bp { p with corner := c } s e n lv xs pcs ∧ Plan o s k e r ∧ pcs ++ r = all

theorem Held.skipped {w0 w w' : World} {bp : Nat} {p : PSt} {s : ByteArray} {e e' n : Nat} {lv : Value} {xs : List Value} {pcs : List Pc} (h : Held w0 w bp p s e n lv xs pcs) (hm : Mods (fun k => k = bp) w w')
    (hp : PsAt w' bp { p with s := s, list := lv, emitted := ((e' : Nat) : Int) }) : Held w0 w' bp p s e' n lv xs pcs :=
  ⟨h.mods.then hm (fun _ _ x => x), hp, ownsRow_keep h.row hm (fun k hk x => own_ne_ps h.row h.at_ (by decide) (by rw [← x]; exact hk)), h.pcs.keep hm (fun b cs T hb hT x => pcs_safe h.at_ h.row b cs T hb hT (Or.inl x)), h.fresh, h.new⟩

/-- A call that changes the parser's mark of a corner case alone. -/
theorem Held.cornered {w0 w w' : World} {bp : Nat} {p : PSt} {s : ByteArray} {e n : Nat} {lv : Value} {xs : List Value} {pcs : List Pc} {c : Bool} (h : Held w0 w bp p s e n lv xs pcs) (hm : Mods (fun k => k = bp) w w')
    (hp : PsAt w' bp { ({ p with s := s, list := lv, emitted := ((e : Nat) : Int) } : PSt) with corner := c }) : Held w0 w' bp { p with corner := c } s e n lv xs pcs :=
  ⟨h.mods.then hm (fun _ _ x => x), hp, ownsRow_keep h.row hm (fun k hk x => own_ne_ps h.row h.at_ (by decide) (by rw [← x]; exact hk)), h.pcs.keep hm (fun b cs T hb hT x => pcs_safe h.at_ h.row b cs T hb hT (Or.inl x)), h.fresh, h.new⟩
/-- Only blocks of a parse state or of a text are changed. -/
def Calm (S : Nat → Prop) (w : World) : Prop := ∀ b cs T, Blk w b cs T → S b → T = 167 ∨ T = 135
theorem calm_ps {w : World} {bp : Nat} {q : PSt} (h : PsAt w bp q) : Calm (fun k => k = bp) w := by
  intro b cs T hb hS
  obtain ⟨tail, htl⟩ := id h
  by_cases hT : T = 167
  · exact Or.inl hT
  · exact absurd hS (hb.ne_of_type htl hT)
theorem calm_text {w : World} {k : Nat} {cs : Array Value} (h : Blk w k cs 135) : Calm (fun b => b = k) w := by
  intro b cs' T hb hS
  by_cases hT : T = 135
  · exact Or.inr hT
  · exact absurd hS (hb.ne_of_type h hT)
/-- What such a change leaves as it was. -/
def Stays (P : World → Nat → Nat → Nat → Prop) : Prop := ∀ S W W' g n c, P W g n c → Calm S W → Mods S W W' → P W' g n c

/-- The parse state when the list is made. -/
structure Mid (w0 w : World) (bp : Nat) (p : PSt) (s : ByteArray) (c : Bool) : Prop where
  mods : Mods (fun k => k = bp) w0 w
  at_ : ∃ l e, PsAt w bp { p with corner := c, s := s, list := l, emitted := e }
theorem Mid.same {w0 w w' : World} {bp : Nat} {p : PSt} {s : ByteArray} {c : Bool} (h : Mid w0 w bp p s c) (hm : Same w w') : Mid w0 w' bp p s c := by
  obtain ⟨h1, l, e, h2⟩ := h
  exact ⟨h1.then hm (fun _ _ x => absurd x (fun x => x)), l, e, h2.same hm⟩
theorem Mid.set9 {w0 w : World} {bp : Nat} {p : PSt} {s : ByteArray} {c : Bool} (h : Mid w0 w bp p s c) (v : Value) : Mid w0 (w.setCell ⟨bp, 9, none⟩ v) bp p s c ∧ Mods (fun k => k = bp) w (w.setCell ⟨bp, 9, none⟩ v) ∧ (w.setCell ⟨bp, 9, none⟩ v).cell? ⟨bp, 9, none⟩ = some v := by
  obtain ⟨h1, l, e, h2⟩ := h
  have hm : Mods (fun k => k = bp) w (w.setCell ⟨bp, 9, none⟩ v) := (Mods.refl (fun k => k = bp) w).setCell (p := ⟨bp, 9, none⟩) (fun _ => rfl) _
  have h3 := h2.set 9 v { p with corner := c, s := s, list := v, emitted := e } rfl (by decide)
  exact ⟨⟨h1.trans hm, v, e, h3⟩, hm, h3.list⟩
end Go.Proofs.YtmmopoofheblbaaGreatDoor.G

/- Trees of inlines in memory: which blocks they consist of, and what leaves them as they are. -/
namespace Go.Proofs.YtmmopoofheblbaaGreatDoor.T
open Go Go.RowKit Go.Proofs

/-- An inline: a leaf (the pointer's type; the first cells of its block), or a node (what stands ahead of and behind its list). -/
inductive Inl where
  | leaf (ty : Nat) (cells : List Value)
  | node (ty : Nat) (pre : List Value) (kids : List Inl) (post : List Value)

/-- The types of the blocks that a tree consists of. -/
def TreeTy (T : Nat) : Prop := T ≠ 3 ∧ T ≠ 167 ∧ T ≠ 135 ∧ T ≠ 84 ∧ T ≠ 281 ∧ T ≠ 266
instance (T : Nat) : Decidable (TreeTy T) := by unfold TreeTy; infer_instance
theorem tt_inline : TreeTy 157 := by decide
theorem tt_mark : TreeTy 268 := by decide
theorem tt_emph : TreeTy 202 := by decide

mutual
/-- The tree t stands in memory under the value v, in blocks that A does not name. -/
def InlAt (A : Nat → Prop) (w : World) : Inl → Value → Prop
  | .leaf ty cells, v => ∃ b T rest, v = .iface ty (.pointer (some ⟨b, 0, none⟩)) ∧ Blk w b (cells ++ rest).toArray T ∧ ¬ A b ∧ TreeTy T
  | .node ty pre kids post, v => ∃ b T sv n xs, v = .iface ty (.pointer (some ⟨b, 0, none⟩)) ∧ Blk w b (pre ++ sv :: post).toArray T ∧ ¬ A b ∧ TreeTy T ∧
      w.ownsRow 0 157 1 sv n xs ∧ (∀ g, sv.ownBlock = some g → ¬ A g) ∧ InlsAt A w kids xs
def InlsAt (A : Nat → Prop) (w : World) : List Inl → List Value → Prop
  | [], [] => True
  | k :: ks, x :: xs => InlAt A w k x ∧ InlsAt A w ks xs
  | [], _ :: _ => False
  | _ :: _, [] => False
end

theorem row_blk {w : World} {e size n : Nat} {v : Value} {xs : List Value} (h : w.ownsRow 0 e size v n xs) {g : Nat} (hg : v.ownBlock = some g) : ∃ cur, Blk w g cur e := by
  rcases h.2 with ⟨rfl, _⟩ | ⟨g', cap, cur, rfl, _, hb, _⟩
  · cases hg
  · cases hg
    exact ⟨cur, hb⟩

mutual
theorem InlAt.keep {A A' S : Nat → Prop} {w w' : World} (hm : Mods S w w') (hS : ∀ b cs T, Blk w b cs T → TreeTy T → S b → A b) (hA : ∀ b, A' b → A b ∨ w.heap.size ≤ b) : ∀ (t : Inl) (v : Value), InlAt A w t v → InlAt A' w' t v
  | .leaf ty cells, v, h => by
    simp only [InlAt] at h ⊢
    obtain ⟨b, T, rest, h1, h2, h3, h4⟩ := h
    have hl := h2.lt
    exact ⟨b, T, rest, h1, h2.keep hm (fun hs => h3 (hS _ _ _ h2 h4 hs)), fun ha => (hA b ha).elim h3 (fun x => by omega), h4⟩
  | .node ty pre kids post, v, h => by
    simp only [InlAt] at h ⊢
    obtain ⟨b, T, sv, n, xs, h1, h2, h3, h4, h5, h6, h7⟩ := h
    have hl := h2.lt
    refine ⟨b, T, sv, n, xs, h1, h2.keep hm (fun hs => h3 (hS _ _ _ h2 h4 hs)), fun ha => (hA b ha).elim h3 (fun x => by omega), h4, ownsRow_keep h5 hm (fun g hg hs => ?_), fun g hg ha => ?_, InlsAt.keep hm hS hA kids xs h7⟩
    · obtain ⟨cur, hb⟩ := row_blk h5 hg
      exact h6 g hg (hS _ _ _ hb tt_inline hs)
    · obtain ⟨cur, hb⟩ := row_blk h5 hg
      have := hb.lt
      exact (hA g ha).elim (h6 g hg) (fun x => by omega)
theorem InlsAt.keep {A A' S : Nat → Prop} {w w' : World} (hm : Mods S w w') (hS : ∀ b cs T, Blk w b cs T → TreeTy T → S b → A b) (hA : ∀ b, A' b → A b ∨ w.heap.size ≤ b) : ∀ (ts : List Inl) (vs : List Value), InlsAt A w ts vs → InlsAt A' w' ts vs
  | [], [], _ => by simp only [InlsAt]
  | k :: ks, x :: xs, h => by
    simp only [InlsAt] at h ⊢
    exact ⟨InlAt.keep hm hS hA k x h.1, InlsAt.keep hm hS hA ks xs h.2⟩
  | [], _ :: _, h => by simp only [InlsAt] at h
  | _ :: _, [], h => by simp only [InlsAt] at h
end

theorem InlAt.same {A : Nat → Prop} {w w' : World} {t : Inl} {v : Value} (h : InlAt A w t v) (hm : Same w w') : InlAt A w' t v :=
  h.keep hm (fun _ _ _ _ _ x => absurd x (fun x => x)) (fun _ x => Or.inl x)
theorem InlAt.mono {A A' : Nat → Prop} {w : World} {t : Inl} {v : Value} (h : InlAt A w t v) (hA : ∀ b, A' b → A b ∨ w.heap.size ≤ b) : InlAt A' w t v :=
  h.keep (Mods.refl (fun _ => False) w) (fun _ _ _ _ _ x => absurd x (fun x => x)) hA
theorem InlAt.val {A : Nat → Prop} {w : World} : ∀ {t : Inl} {v : Value}, InlAt A w t v → ∃ b ty, v = .iface ty (.pointer (some ⟨b, 0, none⟩)) ∧ ty = (match t with | .leaf ty _ => ty | .node ty _ _ _ => ty)
  | .leaf ty cells, v, h => by
    simp only [InlAt] at h
    obtain ⟨b, T, rest, h1, _⟩ := h
    exact ⟨b, ty, h1, rfl⟩
  | .node ty pre kids post, v, h => by
    simp only [InlAt] at h
    obtain ⟨b, T, sv, n, xs, h1, _⟩ := h
    exact ⟨b, ty, h1, rfl⟩
/-- The type of a tree's pointer. -/
def Inl.ty : Inl → Nat
  | .leaf ty _ => ty
  | .node ty _ _ _ => ty

theorem InlsAt.length {A : Nat → Prop} {w : World} : ∀ {ts : List Inl} {vs : List Value}, InlsAt A w ts vs → ts.length = vs.length
  | [], [], _ => rfl
  | _ :: _, _ :: _, h => by
    simp only [InlsAt] at h
    exact congrArg (· + 1) (InlsAt.length h.2)
  | [], _ :: _, h => by simp only [InlsAt] at h
  | _ :: _, [], h => by simp only [InlsAt] at h
theorem InlsAt.get {A : Nat → Prop} {w : World} : ∀ {ts : List Inl} {vs : List Value}, InlsAt A w ts vs → ∀ (j : Nat) (t : Inl) (v : Value), ts[j]? = some t → vs[j]? = some v → InlAt A w t v
  | [], [], _, _, _, _, h, _ => by simp at h
  | k :: ks, x :: xs, h, 0, t, v, h1, h2 => by
    simp only [InlsAt] at h
    simp at h1 h2
    rw [← h1, ← h2]
    exact h.1
  | k :: ks, x :: xs, h, j + 1, t, v, h1, h2 => by
    simp only [InlsAt] at h
    exact InlsAt.get h.2 j t v (by simpa using h1) (by simpa using h2)
  | [], _ :: _, h, _, _, _, _, _ => by simp only [InlsAt] at h
  | _ :: _, [], h, _, _, _, _, _ => by simp only [InlsAt] at h
theorem InlsAt.of {A : Nat → Prop} {w : World} : ∀ {ts : List Inl} {vs : List Value}, ts.length = vs.length → (∀ (j : Nat) (t : Inl) (v : Value), ts[j]? = some t → vs[j]? = some v → InlAt A w t v) → InlsAt A w ts vs
  | [], [], _, _ => by simp only [InlsAt]
  | k :: ks, x :: xs, hl, h => by
    simp only [InlsAt]
    exact ⟨h 0 k x rfl rfl, InlsAt.of (by simpa using hl) (fun j t v h1 h2 => h (j + 1) t v (by simpa using h1) (by simpa using h2))⟩
  | [], _ :: _, hl, _ => by simp at hl
  | _ :: _, [], hl, _ => by simp at hl
theorem InlsAt.same {A : Nat → Prop} {w w' : World} {ts : List Inl} {vs : List Value} (h : InlsAt A w ts vs) (hm : Same w w') : InlsAt A w' ts vs :=
  h.keep hm (fun _ _ _ _ _ x => absurd x (fun x => x)) (fun _ x => Or.inl x)
theorem InlsAt.mono {A A' : Nat → Prop} {w : World} {ts : List Inl} {vs : List Value} (h : InlsAt A w ts vs) (hA : ∀ b, A' b → A b ∨ w.heap.size ≤ b) : InlsAt A' w ts vs :=
  h.keep (Mods.refl (fun _ => False) w) (fun _ _ _ _ _ x => absurd x (fun x => x)) hA
theorem InlsAt.append {A : Nat → Prop} {w : World} : ∀ {ts us : List Inl} {vs xs : List Value}, InlsAt A w ts vs → InlsAt A w us xs → InlsAt A w (ts ++ us) (vs ++ xs)
  | [], _, [], _, _, h => h
  | k :: ks, us, x :: xs, _, h1, h2 => by
    simp only [InlsAt, List.cons_append] at h1 ⊢
    exact ⟨h1.1, InlsAt.append h1.2 h2⟩
  | [], _, _ :: _, _, h, _ => by simp only [InlsAt] at h
  | _ :: _, _, [], _, h, _ => by simp only [InlsAt] at h
theorem InlsAt.take {A : Nat → Prop} {w : World} {ts : List Inl} {vs : List Value} (h : InlsAt A w ts vs) (k : Nat) : InlsAt A w (ts.take k) (vs.take k) := by
  have hl := h.length
  refine InlsAt.of (by simp [hl]) (fun j t v h1 h2 => h.get j t v ?_ ?_)
  · rw [List.getElem?_take] at h1
    split at h1
    · exact h1
    · cases h1
  · rw [List.getElem?_take] at h2
    split at h2
    · exact h2
    · cases h2
theorem InlsAt.drop {A : Nat → Prop} {w : World} {ts : List Inl} {vs : List Value} (h : InlsAt A w ts vs) (k : Nat) : InlsAt A w (ts.drop k) (vs.drop k) := by
  have hl := h.length
  exact InlsAt.of (by simp [hl]) (fun j t v h1 h2 => h.get (k + j) t v (by simpa using h1) (by simpa using h2))
end Go.Proofs.YtmmopoofheblbaaGreatDoor.T

/- toPlain, mergePlain1 of one piece, mergePlain and autoLinkText where they change nothing. -/
namespace Go.Proofs.YtmmopoofheblbaaGreatDoor
open Go Go.RowKit Go.Proofs

/-- An append within the capacity that writes what is there already changes nothing. -/
theorem run_same {P : Program} {w : World} (t ty e : Nat) (ht : P.underlying t = some (.slice e)) (hi : (P.info? e).map (fun i => i.size) = some 1)
    (g i n cap : Nat) (xs : List Value) (hown : w.ownsRow 0 e 1 (.slice (some ⟨g, 0, none⟩) n cap) n xs) (hin : i < n) (u : Value) (hu : xs[i]? = some u) (h1 : u.oneCell' = true) (b c : Nat) (hb : w.cell? ⟨b, 0, none⟩ = some u) :
    ∃ w', (Builtin.append_ #[t, t] ty #[.slice (some ⟨g, 0, none⟩) i cap, .slice (some ⟨b, 0, none⟩) 1 c]).run P w = .ok (.slice (some ⟨g, 0, none⟩) (i + 1) cap) w' ∧ Same w w' := by
  obtain ⟨i0, hi0, hsz⟩ := Option.map_eq_some_iff.1 hi
  rcases hown.2 with ⟨h, _⟩ | ⟨g', cap', cur, hv, _, hg, hc, hm, hs, htake⟩
  · cases h
  · cases hv
    have hlen := hown.1
    simp only [Nat.mul_one] at hs htake hlen
    have hr := run_append_room (P := P) w t ty e i0 ht hi0 g i cap cur hg ⟨b, 0, none⟩ 1 c [u] (by rw [hsz]; rfl)
      (fun j y hy => by cases j with
        | zero => simp at hy; subst hy; simpa [Addr.add_lit] using hb
        | succ j => simp at hy) (fun y hy => by simp at hy; subst hy; exact h1) (by omega) (by rw [hsz]; simp; omega)
    refine ⟨_, hr, ?_⟩
    have hcu : cur.toList[i]? = some u := by
      rw [← hu, ← htake, List.getElem?_take_of_lt hin]
    have hcur : (cur.toList.take (i * i0.size) ++ [u] ++ cur.toList.drop (i * i0.size + [u].length)).toArray = cur := by
      rw [hsz, Nat.mul_one]
      have : cur.toList.take i ++ [u] ++ cur.toList.drop (i + 1) = cur.toList := by
        apply List.ext_getElem?
        intro j
        have hle : i ≤ cur.toList.length := by simp; omega
        rcases Nat.lt_trichotomy j i with h | h | h
        · rw [List.getElem?_append_left (by simp; omega), List.getElem?_append_left (by simp; omega), List.getElem?_take_of_lt h]
        · subst h
          rw [List.getElem?_append_left (by simp; omega), List.getElem?_append_right (by simp; omega), hcu]
          have hml : min j cur.toList.length = j := Nat.min_eq_left hle
          simp only [List.length_take, hml, Nat.sub_self]
          rfl
        · rw [List.getElem?_append_right (by simp; omega)]
          simp only [List.length_append, List.length_take, List.length_singleton, List.getElem?_drop]
          have hml : min i cur.toList.length = i := Nat.min_eq_left hle
          rw [hml]
          congr 1
          omega
      simp only [List.length_singleton]
      rw [this]
    rw [hcur]
    refine ⟨rfl, rfl, rfl, by simp, fun k _ _ => ?_⟩
    by_cases hk : k = g
    · subst hk
      rw [setRow_heap w k cur cur e _ hg, hg]
    · exact setRow_other w g k cur hk

section
variable {w : World} {ops : Array Oper} {rest : List Oper} {o : Oper} {a : Act} {Q : Exit → Act → World → Prop}

theorem wp_same_inl {K : Act → World → Prop} (s x : Operand) (ho : o.op = .call { callee := .builtin .append, args := #[s, x], argTypes := #[84, 84] })
    (g i n cap : Nat) (xs : List Value) (hown : w.ownsRow 0 157 1 (.slice (some ⟨g, 0, none⟩) n cap) n xs) (hin : i < n) (u : Value) (hu : xs[i]? = some u) (h1 : u.oneCell' = true) (b c : Nat)
    (hs : a.eval s = .slice (some ⟨g, 0, none⟩) i cap) (hx : a.eval x = .slice (some ⟨b, 0, none⟩) 1 c) (hb : w.cell? ⟨b, 0, none⟩ = some u)
    (h : ∀ w', Same w w' → K (a.put o.dst (.slice (some ⟨g, 0, none⟩) (i + 1) cap)) w') : o.wp Tryz.prog a w K Q := by
  obtain ⟨w', hr, hm⟩ := run_same (P := Tryz.prog) 84 o.type 157 Tryz.underlying84 (by kernel_rfl) g i n cap xs hown hin u hu h1 b c hb
  unfold Oper.wp execOp
  simp only [ho, resolve, invoke, builtin, Sem.run_bind, Sem.run_pure, Result.andThen_ok, List.map_toArray, List.map_cons, List.map_nil, hs, hx, hr]
  exact h w' hm

theorem wl_same_inl (hgd : o.guard = none) (s x : Operand) (ho : o.op = .call { callee := .builtin .append, args := #[s, x], argTypes := #[84, 84] })
    (g i n cap : Nat) (xs : List Value) (hown : w.ownsRow 0 157 1 (.slice (some ⟨g, 0, none⟩) n cap) n xs) (hin : i < n) (u : Value) (hu : xs[i]? = some u) (h1 : u.oneCell' = true) (b c : Nat)
    (hs : a.eval s = .slice (some ⟨g, 0, none⟩) i cap) (hx : a.eval x = .slice (some ⟨b, 0, none⟩) 1 c) (hb : w.cell? ⟨b, 0, none⟩ = some u)
    (h : ∀ w', Same w w' → wpList Tryz.prog ops Q rest (a.put o.dst (.slice (some ⟨g, 0, none⟩) (i + 1) cap)) w') : wpList Tryz.prog ops Q (o :: rest) a w :=
  wpList_plain hgd fun _ hK => wp_same_inl s x ho g i n cap xs hown hin u hu h1 b c hs hx hb fun w' hm => hK _ _ (h w' hm)

theorem st_same_inl {K : Act → World → Prop} {E : Prop} (hgd : o.guard = none) (s x : Operand) (ho : o.op = .call { callee := .builtin .append, args := #[s, x], argTypes := #[84, 84] })
    (g i n cap : Nat) (xs : List Value) (hown : w.ownsRow 0 157 1 (.slice (some ⟨g, 0, none⟩) n cap) n xs) (hin : i < n) (u : Value) (hu : xs[i]? = some u) (h1 : u.oneCell' = true) (b c : Nat)
    (hs : a.eval s = .slice (some ⟨g, 0, none⟩) i cap) (hx : a.eval x = .slice (some ⟨b, 0, none⟩) 1 c) (hb : w.cell? ⟨b, 0, none⟩ = some u)
    (h : ∀ w', Same w w' → K (a.put o.dst (.slice (some ⟨g, 0, none⟩) (i + 1) cap)) w') : if Region.wanted o (yielded ops a.tmps) = true then Oper.wp Tryz.prog o a w K Q else E := by
  have hw : Region.wanted o (yielded ops a.tmps) = true := by simp [Region.wanted, hgd]
  rw [if_pos hw]
  exact wp_same_inl s x ho g i n cap xs hown hin u hu h1 b c hs hx hb h
end

theorem as_plain_yes (X : Nat) (v : Value) (w : World) : (Instr.typeAssert (.iface 224 v) X 224 true).run Tryz.prog w = .ok (.tuple #[v, .bool true]) w := by kernel_rfl
theorem as_emphPlain_no (p : Pc) (X : Nat) (v : Value) (w : World) : (Instr.typeAssert (.iface p.ty v) X 266 true).run Tryz.prog w = .ok (.tuple #[.pointer none, .bool false]) w :=
  as_ptr_no _ 266 268 (by kernel_rfl) (fun _ => by kernel_rfl) X v w p.ty_emph

/-- A piece that is no plain text. -/
def Pc.other (p : Pc) : Prop := ∀ s, p ≠ .plain s
theorem Pc.ty_other {p : Pc} (h : p.other) : p.ty ≠ 224 := by
  cases p with
  | plain s => exact absurd rfl (h s)
  | _ => simp [Pc.ty]
theorem as_plain_no {p : Pc} (h : p.other) (X : Nat) (v : Value) (w : World) : (Instr.typeAssert (.iface p.ty v) X 224 true).run Tryz.prog w = .ok (.tuple #[.pointer none, .bool false]) w :=
  as_ptr_no _ 224 221 (by kernel_rfl) (fun _ => by kernel_rfl) X v w (Pc.ty_other h)

theorem toPlain_plain (a : Option Addr) (w : World) : Calls Tryz.prog 136 #[.iface 224 (.pointer a)] w fun e w' => e = .returned (.pointer a) ∧ w = w' := by
  have h := as_plain_yes
  go_enter Tryz.func136, Tryz.ntmps136
  go_wp2_with fail
  try rw [Exit.noGoto_ret]
  go_ret
  exact ⟨rfl, rfl⟩

theorem toPlain_other {p : Pc} (h : p.other) (a : Option Addr) (w : World) : Calls Tryz.prog 136 #[.iface p.ty (.pointer a)] w fun e w' => e = .returned (.pointer none) ∧ w = w' := by
  have h1 := as_plain_no h
  have h2 := as_emphPlain_no p
  have h3 := as_openPlain_no p
  clear h
  generalize p.ty = T at *
  go_enter Tryz.func136, Tryz.ntmps136
  go_wp2_with fail
  try rw [Exit.noGoto_ret]
  go_ret
  exact ⟨rfl, rfl⟩

theorem mergePlain1_one (g i cap : Nat) (a : Option Addr) (w : World) (h : w.cell? ⟨g, i, none⟩ = some (.iface 224 (.pointer a))) :
    Calls Tryz.prog 161 #[.slice (some ⟨g, i, none⟩) 1 cap] w fun e w' => e = .returned (.pointer a) ∧ w = w' := by
  go_enter Tryz.func161, Tryz.ntmps161
  go_wp2_with fail
  refine (toPlain_plain a w).mono ?_
  rintro e w' ⟨rfl, rfl⟩
  go_wp2_with fail
  go_ret
  exact ⟨rfl, rfl⟩

theorem autoLinkText_off (bp : Nat) (p : PSt) (v : Value) (w : World) (hp : PsAt w bp p) (hO : Opt w p 3 false) :
    Calls Tryz.prog 119 #[.pointer (some ⟨bp, 0, none⟩), v] w fun e w' => e = .returned v ∧ w = w' := by
  have k0 := hp.parser
  have kO := hO.cell
  go_enter Tryz.func119, Tryz.ntmps119
  go_wp2_with fail
  go_ret
  exact ⟨rfl, rfl⟩
end Go.Proofs.YtmmopoofheblbaaGreatDoor

/- mergePlain and emph change nothing in a list of pieces where no two plain ones stand side by side. -/
namespace Go.Proofs.YtmmopoofheblbaaGreatDoor
open Go Go.RowKit Go.Proofs

theorem PcsAt.get {w : World} : ∀ {xs : List Value} {ps : List Pc} (i : Nat), PcsAt w xs ps → i < xs.length → ∃ x pc, xs[i]? = some x ∧ ps[i]? = some pc ∧ PcAt w x pc
  | [], [], i, _, h => absurd h (Nat.not_lt_zero _)
  | x :: _, p :: _, 0, h, _ => ⟨x, p, rfl, rfl, h.1⟩
  | _ :: _, _ :: _, i + 1, h, hi => by
    obtain ⟨x, pc, h1, h2, h3⟩ := PcsAt.get i h.2 (by simpa using hi)
    exact ⟨x, pc, by simpa using h1, by simpa using h2, h3⟩
  | [], _ :: _, _, h, _ => h.elim
  | _ :: _, [], _, h, _ => h.elim

/-- No two plain pieces side by side. -/
def NoPP (ps : List Pc) : Prop := ∀ i s t, ps[i]? = some (.plain s) → ps[i + 1]? = some (.plain t) → False

/-- What stands at one place of the list: the cell, and which piece. -/
theorem piece_at {w : World} {g n cap : Nat} {xs : List Value} {ps : List Pc} (hown : w.ownsRow 0 157 1 (.slice (some ⟨g, 0, none⟩) n cap) n xs) (hx : PcsAt w xs ps) (i : Nat) (hi : i < n) :
    (∃ b s, w.cell? ⟨g, i, none⟩ = some (.iface 224 (.pointer (some ⟨b, 0, none⟩))) ∧ xs[i]? = some (.iface 224 (.pointer (some ⟨b, 0, none⟩))) ∧ ps[i]? = some (.plain s)) ∨
    (∃ b pc, w.cell? ⟨g, i, none⟩ = some (.iface pc.ty (.pointer (some ⟨b, 0, none⟩))) ∧ xs[i]? = some (.iface pc.ty (.pointer (some ⟨b, 0, none⟩))) ∧ ps[i]? = some pc ∧ pc.other) := by
  have hl : xs.length = n := by have := hown.1; omega
  obtain ⟨_, _, he, _, _, hc⟩ := ownsRow_form hown (by omega)
  cases he
  obtain ⟨x, pc, h1, h2, h3⟩ := hx.get i (by omega)
  obtain ⟨b, rfl, _⟩ := h3
  cases pc with
  | plain s => exact Or.inl ⟨b, s, hc i _ h1, h1, h2⟩
  | esc s => exact Or.inr ⟨b, .esc s, hc i _ h1, h1, h2, fun _ h => by cases h⟩
  | soft => exact Or.inr ⟨b, .soft, hc i _ h1, h1, h2, fun _ h => by cases h⟩
  | auto t u => exact Or.inr ⟨b, .auto t u, hc i _ h1, h1, h2, fun _ h => by cases h⟩
  | tag s => exact Or.inr ⟨b, .tag s, hc i _ h1, h1, h2, fun _ h => by cases h⟩

/-- Such a place, the type a letter. -/
theorem piece_other {w : World} {g n cap : Nat} {xs : List Value} {ps : List Pc} (hown : w.ownsRow 0 157 1 (.slice (some ⟨g, 0, none⟩) n cap) n xs) (hx : PcsAt w xs ps) (i : Nat) (hi : i < n) :
    (∃ b s, w.cell? ⟨g, i, none⟩ = some (.iface 224 (.pointer (some ⟨b, 0, none⟩))) ∧ xs[i]? = some (.iface 224 (.pointer (some ⟨b, 0, none⟩))) ∧ ps[i]? = some (.plain s)) ∨
    (∃ b T, w.cell? ⟨g, i, none⟩ = some (.iface T (.pointer (some ⟨b, 0, none⟩))) ∧ xs[i]? = some (.iface T (.pointer (some ⟨b, 0, none⟩))) ∧ (∀ s, ps[i]? ≠ some (.plain s)) ∧
      (∀ a W, Calls Tryz.prog 136 #[.iface T (.pointer a)] W fun e w' => e = .returned (.pointer none) ∧ W = w')) := by
  rcases piece_at hown hx i hi with h | ⟨b, pc, h1, h2, h3, h4⟩
  · exact Or.inl h
  · exact Or.inr ⟨b, pc.ty, h1, h2, fun s h => by rw [h3] at h; exact h4 s (Option.some.inj h), fun a W => toPlain_other h4 a W⟩

/-- What a place holds, for emph: no mark of emphasis, no bracket. -/
theorem piece_quiet {w : World} {g n cap : Nat} {xs : List Value} {ps : List Pc} (hown : w.ownsRow 0 157 1 (.slice (some ⟨g, 0, none⟩) n cap) n xs) (hx : PcsAt w xs ps) (i : Nat) (hi : i < n) :
    ∃ b T, w.cell? ⟨g, i, none⟩ = some (.iface T (.pointer (some ⟨b, 0, none⟩))) ∧ xs[i]? = some (.iface T (.pointer (some ⟨b, 0, none⟩))) ∧
      (∀ X v W, (Instr.typeAssert (.iface T v) X 228 true).run Tryz.prog W = .ok (.tuple #[.pointer none, .bool false]) W) ∧
      (∀ X v W, (Instr.typeAssert (.iface T v) X 266 true).run Tryz.prog W = .ok (.tuple #[.pointer none, .bool false]) W) := by
  rcases piece_at hown hx i hi with ⟨b, s, h1, h2, _⟩ | ⟨b, pc, h1, h2, _, _⟩
  · exact ⟨b, _, h1, h2, as_openPlain_no (.plain s), as_emphPlain_no (.plain s)⟩
  · exact ⟨b, pc.ty, h1, h2, as_openPlain_no pc, as_emphPlain_no pc⟩

set_option maxRecDepth 100000 in
set_option maxHeartbeats 4000000 in
theorem mergePlain_id (q : Value) (g n cap : Nat) (xs : List Value) (ps : List Pc) (w : World) (hown : w.ownsRow 0 157 1 (.slice (some ⟨g, 0, none⟩) n cap) n xs) (hx : PcsAt w xs ps) (hpp : NoPP ps) (hn : n ≤ 1000000) :
    Calls Tryz.prog 118 #[q, .slice (some ⟨g, 0, none⟩) n cap] w fun e w' => e = .returned (.slice (some ⟨g, 0, none⟩) n cap) ∧ Same w w' := by
  have hcap : n ≤ cap := by
    rcases hown.2 with ⟨h, _⟩ | ⟨_, _, _, h, _, _, hc, _⟩
    · cases h
    · cases h; exact hc
  have c1 : (0 : Int) ≤ cap := by omega
  go_enter Tryz.func118, Tryz.ntmps118
  go_wp2_with fail
  go_loopg [5, 6, 7] (n + 1) (fun m v5 v6 v7 wr => ∃ i : Nat, v7 = .int .i64 i ∧ m = n + 1 - i ∧ i ≤ n ∧ Same w wr ∧
    ((v5 = .slice (some ⟨g, 0, none⟩) i cap ∧ v6 = .int .i64 i ∧ (∀ k, i = k + 1 → ∀ s, ps[k]? ≠ some (.plain s))) ∨ (∃ k s, i = k + 1 ∧ v5 = .slice (some ⟨g, 0, none⟩) k cap ∧ v6 = .int .i64 k ∧ ps[k]? = some (.plain s))))
  case atStart => exact ⟨0, rfl, by omega, by omega, Mods.refl _ _, Or.inl ⟨rfl, rfl, fun k hk => by omega⟩⟩
  case round =>
    obtain ⟨i, rfl, rfl, hi, hm, hor⟩ := hrel
    have hownr := ownsRow_keep hown hm (fun _ _ x => x)
    have hxr := hx.keep hm (fun _ _ _ _ _ x => x)
    have w1 : IntKind.i64.wrap ((i : Int) + 1) = (i : Int) + 1 := IntWalk.i64_in _ (by omega)
    have w2 : (0 : Int) ≤ i := by omega
    have HM := Lib.hid hm
    clear hm
    by_cases hlt : i < n
    · have w3 : (i : Int) < n := by omega
      have w4 : ¬ ((n : Int) ≤ i) := by omega
      rcases piece_other hownr hxr i hlt with ⟨b, s, hc, hxi, hpi⟩ | ⟨b, T, hc, hxi, hpi, hTP⟩
      · rcases hor with ⟨rfl, rfl, hno⟩ | ⟨k, t, hik, rfl, rfl, hk⟩
        · clear hno
          go_wp2_with fail
          refine (toPlain_plain _ wr).mono ?_
          rintro e w' ⟨rfl, rfl⟩
          go_wp2_with fail
          go_roundg (n + 1 - (i + 1))
          case measure => omega
          case rel => exact ⟨i + 1, by simp, rfl, by omega, HM.out, Or.inr ⟨i, s, rfl, rfl, rfl, hpi⟩⟩
        · subst hik; exact (hpp k t s hk hpi).elim
      · rcases hor with ⟨rfl, rfl, hno⟩ | ⟨k, t, hik, rfl, rfl, hk⟩
        · clear hno
          go_wp2_with fail
          refine (hTP _ wr).mono ?_
          rintro e w' ⟨rfl, rfl⟩
          go_wp2_with (at_builtin; refine wl_same_inl rfl (.tmp 40) (.tmp 45) rfl g i n cap xs (hownr.alloc _) hlt _ hxi rfl wr.heap.size 1 rfl rfl ((Blk.newAt _ _ rfl).cell 0) ?_)
          intro wB hmB
          go_wp2_with fail
          go_roundg (n + 1 - (i + 1))
          case measure => omega
          case rel => exact ⟨i + 1, by simp, rfl, by omega, (HM.out.alloc _).trans hmB, Or.inl ⟨rfl, by simp, fun k hk s' hs' => by cases hk; exact hpi s' hs'⟩⟩
        · obtain ⟨b0, s0, hc0, hx0, hp0⟩ | ⟨b0, pc0, hc0, hx0, hp0, ho0⟩ := piece_at hownr hxr k (by omega)
          · have v1 : (k : Int) < i := by omega
            have v2 : (0 : Int) ≤ k := by omega
            have v3 : (k : Int) ≤ i := by omega
            have v4 : (i : Int) ≤ cap := by omega
            have v5 : i - k = 1 := by omega
            have hkn : k < n := by omega
            have HI := Lib.hid hik
            clear hik hk
            go_wp2_with fail
            refine (hTP _ wr).mono ?_
            rintro e w' ⟨rfl, rfl⟩
            go_wp2_with fail
            refine (mergePlain1_one g k _ _ wr hc0).mono ?_
            rintro e w' ⟨rfl, rfl⟩
            go_wp2_with (at_builtin; refine wl_same_inl rfl (.tmp 27) (.tmp 34) rfl g k n cap xs (hownr.alloc _) hkn _ hx0 rfl wr.heap.size 1 rfl rfl ((Blk.newAt _ _ rfl).cell 0) ?_)
            intro wB hmB
            have hmB' := ((Mods.refl (fun _ => False) wr).alloc _).trans hmB
            have hownB := ownsRow_keep hownr hmB' (fun _ _ x => x)
            have hcB : wB.cell? ⟨g, i, none⟩ = some (.iface T (.pointer (some ⟨b, 0, none⟩))) := by
              obtain ⟨_, _, he, _, _, hcc⟩ := ownsRow_form hownB (by omega)
              cases he
              exact hcc i _ hxi
            go_wp2_with (at_builtin; refine wl_same_inl rfl (.tmp 40) (.tmp 45) rfl g (k + 1) n cap xs (hownB.alloc _) (by have := HI.out; omega) _ (by rw [← HI.out]; exact hxi) rfl wB.heap.size 1 rfl rfl ((Blk.newAt _ _ rfl).cell 0) ?_)
            intro wC hmC
            go_wp2_with fail
            go_roundg (n + 1 - (i + 1))
            case measure => omega
            case rel => exact ⟨i + 1, by simp, rfl, by omega, ((HM.out.trans hmB').alloc _).trans hmC, Or.inl ⟨by rw [HI.out], by simp, fun k hk s' hs' => by cases hk; exact hpi s' hs'⟩⟩
          · rw [hk] at hp0; cases hp0; exact absurd rfl (ho0 _)
    · have hin : i = n := by omega
      subst hin
      have w3 : ¬ ((i : Int) < i) := by omega
      rcases hor with ⟨rfl, rfl, hno⟩ | ⟨k, t, hik, rfl, rfl, hk⟩
      · clear hno
        go_wp2_with fail
        go_ret
        exact ⟨rfl, HM.out⟩
      · obtain ⟨b0, s0, hc0, hx0, hp0⟩ | ⟨b0, pc0, hc0, hx0, hp0, ho0⟩ := piece_at hownr hxr k (by omega)
        · have v1 : (k : Int) < i := by omega
          have v2 : (0 : Int) ≤ k := by omega
          have v3 : (k : Int) ≤ i := by omega
          have v4 : (i : Int) ≤ cap := by omega
          have v5 : i - k = 1 := by omega
          have hkn : k < i := by omega
          have HI := Lib.hid hik
          clear hik hk
          go_wp2_with fail
          refine (mergePlain1_one g k _ _ wr hc0).mono ?_
          rintro e w' ⟨rfl, rfl⟩
          go_wp2_with (at_builtin; refine wl_same_inl rfl (.tmp 27) (.tmp 34) rfl g k i cap xs (hownr.alloc _) hkn _ hx0 rfl wr.heap.size 1 rfl rfl ((Blk.newAt _ _ rfl).cell 0) ?_)
          intro wB hmB
          have hmB' := ((Mods.refl (fun _ => False) wr).alloc _).trans hmB
          go_wp2_with fail
          go_ret
          exact ⟨by rw [HI.out]; rfl, HM.out.trans hmB'⟩
        · rw [hk] at hp0; cases hp0; exact absurd rfl (ho0 _)
end Go.Proofs.YtmmopoofheblbaaGreatDoor
