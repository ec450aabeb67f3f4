/- Some texts of one proof, put into one file: Parse, Print, Plain, Print2, Print3, Pairs. -/
import Derived.Deep.LoopGhost
import Derived.Shelf.Strings.Builder1
import Derived.Shelf.Strings.Builder2
import Derived.Shelf.Strings.OnBuilder
import Derived.Shelf.Small.Utf8
import Derived.Shelf.Small.Strs
import Derived.Shelf.Strings.BuilderF
import Derived.Shelf.Strings.BuilderK
import Derived.Shelf.LaysM
import Derived.Shelf.Bytes.Len
import Derived.Shelf.Bytes.TryGrow
import Derived.Shelf.Bytes.GrowSliceCatch
import Derived.Shelf.Bytes.GrowSlice
import Derived.Shelf.Bytes.String
import Derived.Shelf.Strings.Search1
import Derived.Shelf.Bytes.GrowRow0Kept
import Derived.Shelf.Bytes.GrowRowKept
import Derived.Shelf.Bytes.GrowNilKept
import Derived.Shelf.Bytes.GrowKept
import Derived.Shelf.Bytes.WriteByteKept
import Derived.Shelf.Bytes.WriteStringKept
import Derived.Shelf.Bytes.ResetKept
import Derived.Shelf.Bytes.BufferK
import Derived.Shelf.Bits.Mul64
import Derived.Shelf.Unicode.DecodeSlow
import Derived.Test.YtmmopoofheblbaaGreatDoorProg
import Derived.Lib.BufferOld
import Derived.Test.YtmmopoofheblbaaGreatDoorIm5
/- (*Parser).parse of one line of plain bytes and escaped signs. -/
namespace Go.Proofs.YtmmopoofheblbaaGreatDoor
open Go Go.RowKit Go.Proofs

/-- The parser's options. -/
structure Off (w : World) (pp : Nat) : Prop where
  lt : pp < w.heap.size
  ex : ∃ cs, Blk w pp cs 100 ∧ (∀ k, k < 10 → cs[k]? = some (.bool false))

theorem Off.opt {w : World} {pp : Nat} (h : Off w pp) {p : PSt} (hp : p.parser = pp) (k : Nat) (hk : k < 10) : Opt w p k false := by
  obtain ⟨cs, h1, h2⟩ := h.ex
  exact ⟨cs, by rw [hp]; exact h1, h2 k hk⟩
theorem Off.same {w w' : World} {pp : Nat} (h : Off w pp) (hm : Same w w') : Off w' pp := by
  obtain ⟨cs, h1, h2⟩ := h.ex
  exact ⟨Nat.lt_of_lt_of_le h.lt hm.size, cs, hm.blk h1, h2⟩

/-- A line as FnEscaped writes it. -/
structure OneLine (s : ByteArray) : Prop where
  pos : 0 < s.size
  small : s.size ≤ 900000
  first : isW s[0] = false
  last : isW (s[s.size - 1]'(by omega)) = false
  no0 : ∀ i (hi : i < s.size), s[i] ≠ 0
  no10 : ∀ i (hi : i < s.size), s[i] ≠ 10
  no13 : ∀ i (hi : i < s.size), s[i] ≠ 13
  no91 : s[0] ≠ 91
  no9 : ∀ i (hi : i < s.size), s[i] ≠ 9
  begins : Begins s 0

theorem trimL_id {s : ByteArray} (h0 : 0 < s.size) (h : isW s[0] = false) : trimL (s.extract 0 s.size) = s := by
  have he := ext_all s
  rw [he]
  unfold trimL
  have : ws s 0 = 0 := by rw [ws, dif_pos h0, h]; rfl
  rw [this, he]
theorem blankAt_id {s : ByteArray} (h0 : 0 < s.size) (h : isW s[0] = false) : blankAt s 0 = false := by
  unfold blankAt
  rw [trimL_id h0 h]
  exact bs_ne h0

def p0 (pp : Nat) : PSt := ⟨pp, .pointer none, .map none, 0, .slice none 0 0, -1, false, ⟨#[]⟩, 0, .slice none 0 0, .slice none 0 0, .slice none 0 0, tail0⟩

/-- The parse state when the line has been read. -/
def p2 (pp g cap : Nat) : PSt := { p0 pp with lineno := 1, depth := 0, stack := .slice (some ⟨g, 0, none⟩) (0 + 2) cap }

/-- What stands of the document when both blocks are closed. -/
structure TwoClosed (w w' : World) (bp g cap pp : Nat) (s : ByteArray) : Prop where
  mods : Mods (fun k => k = bp ∨ k = g) w w'
  ex : ∃ rk pk tb tg tc ig ic, w.heap.size ≤ rk ∧ w.heap.size ≤ pk ∧ w.heap.size ≤ tb ∧
    Blk w' rk #[.int .i64 0, .int .i64 0, .slice (some ⟨ig, 0, none⟩) 1 ic, .map none] 111 ∧
    Blk w' pk #[.int .i64 1, .int .i64 1, .pointer (some ⟨tb, 0, none⟩)] 138 ∧
    Blk w' tb #[.int .i64 1, .int .i64 1, .slice none 0 0, .string s] 135 ∧
    PsAt w' bp { p2 pp g cap with texts := .slice (some ⟨tg, 0, none⟩) 1 tc, stack := .slice (some ⟨g, 0, none⟩) 0 cap, root := .pointer (some ⟨rk, 0, none⟩) } ∧
    w'.ownsRow 0 131 1 (.slice (some ⟨tg, 0, none⟩) 1 tc) 1 [.pointer (some ⟨tb, 0, none⟩)] ∧
    w'.ownsRow 0 91 1 (.slice (some ⟨ig, 0, none⟩) 1 ic) 1 [.iface 136 (.pointer (some ⟨pk, 0, none⟩))]

theorem closed_two (bp g cap bb pp : Nat) (tv : Value) (s : ByteArray) (v : Option Addr) (w : World) (hp : PsAt w bp (p2 pp g cap))
    (hown : w.ownsRow 0 239 4 (.slice (some ⟨g, 0, none⟩) (0 + 2) cap) (0 + 2) ([.iface 172 (.pointer v), .slice none 0 0, .int .i64 0, .int .i64 0] ++ [.iface 287 (.pointer (some ⟨bb, 0, none⟩)), .slice none 0 0, .int .i64 1, .int .i64 1]))
    (hB : Blk w bb #[tv, .pointer none] 291) (htv : w.ownsRow 0 9 1 tv 1 [.string s]) (hs : OneLine s) :
    Calls Tryz.prog 90 #[.pointer (some ⟨bp, 0, none⟩), .int .i64 0] w fun e w' => e = .returned (.tuple #[]) ∧ TwoClosed w w' bp g cap pp s := by
  have hs6 : s.size ≤ 1000000 := by have := hs.small; omega
  obtain ⟨gt, ct, rfl, _, _, hc⟩ := ownsRow_form htv (by omega)
  have hc0 := hc 0 _ rfl
  have hJ : ∀ W, Same w W → Calls Tryz.prog 209 #[.slice (some ⟨gt, 0, none⟩) 1 ct, .string ⟨#[10]⟩] W fun e W' => e = .returned (.string s) ∧ Same W W' := fun W hW =>
    (join_one gt ct s ⟨#[10]⟩ W ((World.cell?_of_block (hW.block gt (World.block_lt_of_cell? _ _ hc0) (fun x => x))).trans hc0)).mono fun e W' ⟨h1, h2⟩ => ⟨h1, by rw [← h2]; exact Mods.refl _ _⟩
  have h91 := hs.no91
  have h10 := hs.no10 0 hs.pos
  have h9 := hs.no9 0 hs.pos
  have h32 : s[0]'hs.pos ≠ 32 := by intro h; have := hs.first; rw [h] at this; cases this
  have hcl := closePara bp bb g 0 cap 0 0 (p2 pp g cap) [] [] [] (.iface 172 (.pointer v)) (.slice none 0 0) (.slice none 0 0) _ 0 0 1 1 1 s w hp rfl (by omega) hown ⟨rfl, Or.inl ⟨rfl, rfl⟩⟩ (by omega) hB ⟨_, _, rfl⟩ (by omega)
    ⟨rfl, Or.inl ⟨rfl, rfl⟩⟩ (by omega) hJ hs.pos hs6 h32 h9 h10 h91 (by omega) (by omega)
  have hgen := trimStack_gen bp 0 (fun k W => match k with
    | 2 => W = w
    | 1 => ∃ u, ParaClosed w W bp g 0 cap 0 0 (p2 pp g cap) [] [] [] (.iface 172 (.pointer v)) (.slice none 0 0) 0 0 1 (1 + (1 : Nat) - 1) s u
    | 0 => TwoClosed w W bp g cap pp s
    | _ => False) (by omega) ?_ ?_ 2 w rfl
  · exact hgen
  · intro k W hP
    match k, hP with
    | 2, hP => subst hP; exact ⟨by omega, _, _, hp.stack⟩
    | 1, ⟨u, hPC⟩ =>
      obtain ⟨pk, tb, tg, tc, ig, ic, _, _, _, _, _, h, _⟩ := hPC.ex
      exact ⟨by omega, _, _, h.stack⟩
    | 0, hP =>
      obtain ⟨rk, pk, tb, tg, tc, ig, ic, _, _, _, _, _, _, h, _⟩ := hP.ex
      exact ⟨by omega, _, _, h.stack⟩
  · intro k W hP
    match k, hP with
    | 1, hP => subst hP; exact hcl.mono fun e w' ⟨v1, h1, h2⟩ => ⟨v1, h1, v1, h2⟩
    | 0, ⟨u, hPC⟩ =>
      obtain ⟨pk, tb, tg, tc, ig, ic, _, hpk, htb, hPb, hTb, hps, htx, hrow, hin⟩ := hPC.ex
      refine (closeRoot bp g cap _ v (some ⟨ig, 0, none⟩) 1 ic none 0 0 W hps rfl hrow rfl).mono ?_
      rintro e W' ⟨u', rfl, hm, rk, hrk, hR, hps'⟩
      have h1 := hPC.mods.size
      have hne : ∀ {b : Nat} {cs : Array Value} {T : Nat}, Blk W b cs T → T ≠ 167 → ¬ (b = bp) := fun h hT => by
        obtain ⟨tail, htl⟩ := id hps
        exact h.ne_of_type htl hT
      refine ⟨u', rfl, ?_, rk, pk, tb, tg, tc, ig, ic, by omega, hpk, htb, hR, hPb.keep hm (hne hPb (by decide)), hTb.keep hm (hne hTb (by decide)), hps', ?_, ?_⟩
      · refine (hPC.mods.mono (fun k _ h => ?_)).trans (hm.mono (fun _ _ h => Or.inl h))
        rcases h with h | h | h | h
        · exact Or.inl h
        · exact Or.inr h
        · cases h
        · cases h
      · exact ownsRow_keep htx hm (fun k hk x => own_ne_ps htx hps (by decide) (by rw [← x]; exact hk))
      · exact ownsRow_keep hin hm (fun k hk x => own_ne_ps hin hps (by decide) (by rw [← x]; exact hk))

/-- The document of one paragraph of one line. -/
structure DocAt (w w' : World) (bp rk pp : Nat) (s : ByteArray) (all : List Pc) : Prop where
  mods : Same w w'
  ps : ∃ q : PSt, PsAt w' bp q ∧ q.root = .pointer (some ⟨rk, 0, none⟩)
  ex : ∃ pk tb ig ic gl n lc xs x y x2 y2, Blk w' rk #[.int .i64 x, .int .i64 y, .slice (some ⟨ig, 0, none⟩) 1 ic, .map none] 111 ∧
    w'.ownsRow 0 91 1 (.slice (some ⟨ig, 0, none⟩) 1 ic) 1 [.iface 136 (.pointer (some ⟨pk, 0, none⟩))] ∧
    Blk w' pk #[.int .i64 x2, .int .i64 y2, .pointer (some ⟨tb, 0, none⟩)] 138 ∧
    Blk w' tb #[.int .i64 x2, .int .i64 y2, .slice (some ⟨gl, 0, none⟩) n lc, .string s] 135 ∧
    0 < n ∧ n ≤ s.size + 1 ∧ w'.ownsRow 0 157 1 (.slice (some ⟨gl, 0, none⟩) n lc) n xs ∧ PcsAt w' xs (all)

theorem DocAt.same {w w1 w2 : World} {bp rk pp : Nat} {s : ByteArray} {all : List Pc} (h : DocAt w w1 bp rk pp s all) (hm : Same w1 w2) : DocAt w w2 bp rk pp s all := by
  obtain ⟨h1, ⟨q, hq, hq1⟩, pk, tb, ig, ic, gl, n, lc, xs, x, y, x2, y2, a1, a2, a3, a4, a5, a6, a7, a8⟩ := h
  exact ⟨h1.trans hm, ⟨q, hq.same hm, hq1⟩, pk, tb, ig, ic, gl, n, lc, xs, x, y, x2, y2, hm.blk a1, ownsRow_keep a2 hm (fun _ _ x => x), hm.blk a3, hm.blk a4, a5, a6, ownsRow_keep a7 hm (fun _ _ x => x), a8.keep hm (fun _ _ _ _ _ x => x)⟩

theorem docAt_mk {w w3 w4 : World} {x y x2 y2 : Int} {bp rk pk tb ig ic gl n lc pp : Nat} {q q1 : PSt} {s : ByteArray} {xs : List Value} {all : List Pc} (hm : Same w w3) (hbp : w.heap.size ≤ bp) (htb : w.heap.size ≤ tb) (hps : PsAt w3 bp q)
    (hR : Blk w3 rk #[.int .i64 x, .int .i64 y, .slice (some ⟨ig, 0, none⟩) 1 ic, .map none] 111) (hPk : Blk w3 pk #[.int .i64 x2, .int .i64 y2, .pointer (some ⟨tb, 0, none⟩)] 138)
    (hT : Blk w3 tb #[.int .i64 x2, .int .i64 y2, .slice none 0 0, .string s] 135) (hin : w3.ownsRow 0 91 1 (.slice (some ⟨ig, 0, none⟩) 1 ic) 1 [.iface 136 (.pointer (some ⟨pk, 0, none⟩))])
    (hH : Held w3 w4 bp q1 s s.size n (.slice (some ⟨gl, 0, none⟩) n lc) xs (all)) (hn0 : 0 < n) (hn1 : n ≤ s.size + 1) (hq1 : q1.root = .pointer (some ⟨rk, 0, none⟩)) :
    DocAt w (w4.setCell ⟨tb, 2, none⟩ (.slice (some ⟨gl, 0, none⟩) n lc)) bp rk pp s all := by
  obtain ⟨tail, htl⟩ := id hps
  have hT4 := hT.keep1 hH.mods (hT.ne_of_type htl (by decide))
  have hm5 : Mods (fun k => k = tb) w4 (w4.setCell ⟨tb, 2, none⟩ (.slice (some ⟨gl, 0, none⟩) n lc)) := (Mods.refl (fun k => k = tb) w4).setCell (p := ⟨tb, 2, none⟩) (fun _ => rfl) _
  have hin4 := ownsRow_keep hin hH.mods (fun k hk x => own_ne_ps hin hps (by decide) (by rw [← x]; exact hk))
  have hne : ∀ {b : Nat} {cs : Array Value} {T : Nat}, Blk w4 b cs T → T ≠ 135 → b ≠ tb := fun h hT => h.ne_of_type hT4 hT
  refine ⟨?_, ⟨_, hH.at_.set_other (a := ⟨tb, 2, none⟩) (hT.ne_of_type htl (by decide)) _, hq1⟩, pk, tb, ig, ic, gl, n, lc, xs, x, y, x2, y2, ?_, ?_, ?_, hT4.set_same 2 _, hn0, hn1, ?_, ?_⟩
  · exact (hm.then hH.mods (fun b hb h => by omega)).then hm5 (fun b hb h => by omega)
  · exact (hR.keep1 hH.mods (hR.ne_of_type htl (by decide))).keep1 hm5 (hne (hR.keep1 hH.mods (hR.ne_of_type htl (by decide))) (by decide))
  · exact ownsRow_keep hin4 hm5 (fun k hk x => own_ne hin4 hT4 (by decide) (by rw [← x]; exact hk))
  · exact (hPk.keep1 hH.mods (hPk.ne_of_type htl (by decide))).keep1 hm5 (hne (hPk.keep1 hH.mods (hPk.ne_of_type htl (by decide))) (by decide))
  · exact ownsRow_keep hH.row hm5 (fun k hk x => own_ne hH.row hT4 (by decide) (by rw [← x]; exact hk))
  · exact hH.pcs.keep hm5 (fun b cs T hb hTT x => by
      refine hne hb ?_ x
      exact hTT.ne (by decide) (by decide) (by decide) (by decide) (by decide))

set_option maxRecDepth 100000 in
set_option maxHeartbeats 8000000 in
theorem parse_line (pp : Nat) (s : ByteArray) (w : World) (hs : OneLine s) (all : List Pc) (hg : Plan s 0 0 all) (hO : Off w pp) :
    Calls Tryz.prog 68 #[.pointer (some ⟨pp, 0, none⟩), .string s] w fun e w' => ∃ bp rk c, e = .returned (.tuple #[.pointer (some ⟨rk, 0, none⟩), .bool c]) ∧ DocAt w w' bp rk pp s all := by
  have hs6 : s.size ≤ 1000000 := by have := hs.small; omega
  have i0 := idx1_none hs.no0
  have i10 := idx1_none hs.no10
  have i13 := idx1_none hs.no13
  go_enter Tryz.func68, Tryz.ntmps68
  go_wp2_with fail
  refine (zzContains_any s 0 _ hs6).mono ?_
  rintro e w' ⟨rfl, rfl⟩
  rw [i0]
  generalize hW : (World.alloc _ _ : World) = W
  have hm0 : Same w W := by subst hW; exact (Mods.refl _ w).alloc _
  have hp0 : PsAt W w.heap.size { p0 pp with depth := 0 } := by
    subst hW
    exact ⟨⟨tail0, rfl⟩, Blk.newAt _ _ rfl⟩
  clear hW
  generalize hbp : w.heap.size = bp at *
  have hO0 := hO.same hm0
  have k5 := hp0.depth
  have f5 := hp0.fr 5
  have hbl := hp0.lt
  go_wp2_with fail
  generalize hX : (World.alloc (World.setCell _ _ _) _ : World) = X
  have hmX : Same w X := by
    subst hX
    exact (hm0.setCell (p := ⟨bp, 5, none⟩) (fun h => absurd h (Nat.not_lt.2 (Nat.le_of_eq hbp))) _).alloc _
  have hpX : PsAt X bp (p0 pp) := by
    subst hX
    exact PsAt.alloc (hp0.set 5 (.int .i64 (-1)) (p0 pp) rfl (by decide)) _
  clear hX
  refine (addBlock_any bp 0 0 none (p0 pp) _ (.pointer (some ⟨W.heap.size, 0, none⟩)) [] (-1) X hpX rfl (by omega) rfl rfl ⟨rfl, Or.inl ⟨rfl, rfl⟩⟩ (fun g h => by cases h) rfl).mono ?_
  rintro e w1 ⟨rfl, hm1, g, cap, hp1, hown1, hgl1⟩
  have hmw1 : Same w w1 := hmX.then hm1 (fun b hb h => by
    rcases h with h | h
    · omega
    · cases h)
  have e0 : s.toList.isEmpty = false := bs_ne hs.pos
  have e0' : (!s.toList.isEmpty) = true := by rw [e0]; rfl
  clear k5 f5 hbl
  go_wp2_with fail
  go_loopg [1] 1 (fun k v1 wr => (k = 1 ∧ v1 = .string s ∧ wr = w1) ∨ (k = 0 ∧ v1 = .string ⟨#[]⟩ ∧ ParaNew w1 wr bp { p0 pp with lineno := 1, stack := .slice (some ⟨g, 0, none⟩) 1 cap, depth := 0 } 0 [.iface 172 (.pointer (some ⟨W.heap.size, 0, none⟩)), .slice none 0 0, .int .i64 0, .int .i64 0] s))
  case atStart => exact Or.inl ⟨rfl, rfl, rfl⟩
  case round =>
    rcases hrel with ⟨rfl, rfl, rfl⟩ | ⟨rfl, rfl, hPN⟩
    · go_wp2_with fail
      refine (zzIndex_any s 10 _ hs6).mono ?_
      rintro e w' ⟨rfl, rfl⟩
      rw [i10]
      go_wp2_with fail
      refine (zzIndex_any s 13 _ hs6).mono ?_
      rintro e w' ⟨rfl, rfl⟩
      rw [i13]
      have k3 : wr.cell? ⟨bp, 3, none⟩ = some (.int .i64 0) := hp1.lineno
      have f3 := hp1.fr 3
      have hbl := hp1.lt
      go_wp2_with fail
      generalize hY : (World.setCell wr _ _ : World) = Y
      have hmY : Mods (fun k => k = bp) wr Y := by subst hY; exact (Mods.refl (fun k => k = bp) wr).setCell (p := ⟨bp, 3, none⟩) (fun _ => rfl) _
      have hpY : PsAt Y bp { p0 pp with lineno := 1, stack := .slice (some ⟨g, 0, none⟩) 1 cap } := by subst hY; exact hp1.set 3 _ _ rfl (by decide)
      clear hY k3 f3 hbl
      have hownY := ownsRow_keep hown1 hmY (fun k hk x => own_ne_ps hown1 hp1 (by decide) (by rw [← x]; exact hk))
      have hOY := (hO.same hmw1)
      have hppb : pp ≠ bp := by have := hO.lt; omega
      have hOYo : Opt Y { p0 pp with lineno := 1, stack := .slice (some ⟨g, 0, none⟩) 1 cap } 5 false := (hOY.opt rfl 5 (by omega)).keep hmY hppb
      have hNP : NoPara Y bp g 0 cap { p0 pp with lineno := 1, stack := .slice (some ⟨g, 0, none⟩) 1 cap } 172 (.pointer (some ⟨W.heap.size, 0, none⟩)) :=
        ⟨hpY, rfl, by omega, (row_cells (n := 0) (l := []) hownY).1, by decide⟩
      refine (addLine_first bp g cap _ _ _ _ s 0 Y hNP hs6 (blankAt_id hs.pos hs.first) hOYo hownY hppb (fun V hV => triesNo_begins bp g 0 cap _ _ _ s 0 0 V hV rfl (by decide) (Nat.zero_le _) ⟨hs6, hs.no9⟩ hs.begins)).mono ?_
      rintro e w2 ⟨rfl, hPN⟩
      rw [trimL_id hs.pos hs.first] at hPN
      go_wp2_with fail
      go_roundg 0
      case measure => omega
      case rel => exact Or.inr ⟨rfl, rfl, ⟨(hmY.mono (fun _ _ h => Or.inl h)).trans hPN.mods, by obtain ⟨g', c', bb, tv, a1, a2, a3, a4, a5, a6, a7⟩ := hPN.ex; exact ⟨g', c', bb, tv, a1, a2, a3, a4, Nat.le_trans hmY.size a5, fun hlt => a6 (Nat.lt_of_lt_of_le hlt hmY.size), fun k hk => Nat.le_trans hmY.size (a7 k hk)⟩⟩⟩
    · go_wp2_with fail
      obtain ⟨hm2, g2, cap2, bb, tv, hp2, hown2, hB2, htv2, hbb, hg2, _⟩ := hPN
      refine (closed_two bp g2 cap2 bb pp tv s (some ⟨W.heap.size, 0, none⟩) wr hp2 hown2 hB2 htv2 hs).mono ?_
      rintro e w3 ⟨rfl, hTw⟩
      have hXs := hmX.size
      have hgw : w.heap.size ≤ g := by
        by_cases h : g < X.heap.size
        · cases hgl1 h
        · omega
      have hg2w : w.heap.size ≤ g2 := by
        by_cases h : g2 < w1.heap.size
        · have := hg2 h
          cases this
          exact hgw
        · have := hmw1.size; omega
      have hmw2 : Same w wr := hmw1.then hm2 (fun b hb h => by
        rcases h with h | h
        · omega
        · have hh : g = b := Option.some.inj h
          omega)
      have hmw3 : Same w w3 := hmw2.then hTw.mods (fun b hb h => by omega)
      have hrs := hmw2.size
      obtain ⟨rk, pk, tb, tg, tc, ig, ic, hrk, hpk, htb, hR, hPk, hT, hps, htx, hin⟩ := hTw.ex
      clear hp1 hown1 hgl1 hm1 hpX hmX hp0 hm0 hown2 hB2 htv2 hp2 hTw
      have k11 := hps.texts
      go_wp2_with fail
      go_loopg [83] 1 (fun k v83 wr2 => (k = 1 ∧ v83 = .int .i64 0 ∧ wr2 = w3) ∨ (k = 0 ∧ v83 = .int .i64 1 ∧ DocAt w wr2 bp rk pp s all))
      case atStart => exact Or.inl ⟨rfl, rfl, rfl⟩
      case round =>
        rcases hrel with ⟨rfl, rfl, rfl⟩ | ⟨rfl, rfl, hDA⟩
        · obtain ⟨_, _, he, _, _, hc⟩ := ownsRow_form htx (by omega)
          cases he
          have t0 := hc 0 _ rfl
          have r3 := hT.cell 3
          go_wp2_with fail
          have hOw : Opt wr _ 3 false := (hO.same hmw3).opt (p := { p2 pp g2 cap2 with texts := .slice (some ⟨tg, 0, none⟩) 1 tc, stack := .slice (some ⟨g2, 0, none⟩) 0 cap2, root := .pointer (some ⟨rk, 0, none⟩) }) rfl 3 (by omega)
          refine (inline_any bp _ s wr hps hs.small hs.pos all hg hOw (by have := hO.lt; show pp ≠ bp; omega) (trimSpaceTab_id s wr hs6 hs.pos hs.first hs.last)).mono ?_
          rintro e w4 ⟨gl, n, lc, xs, rfl, hn0, hn1, c4, hH⟩
          have hTne : tb ≠ bp := by
            obtain ⟨tail, htl⟩ := id hps
            exact hT.ne_of_type htl (by decide)
          have hT4 := hT.keep1 hH.mods hTne
          have c2 : w4.cell? ⟨tb, 2, none⟩ = some (.slice none 0 0) := hT4.cell 2
          have f2 := hT4.fr 2
          have l2 := hT4.lt
          go_wp2_with fail
          go_roundg 0
          case measure => omega
          case rel => exact Or.inr ⟨rfl, rfl, docAt_mk hmw3 (by omega) (by omega) hps hR hPk hT hin hH hn0 hn1 rfl⟩
        · have hoff := (hO.same hDA.mods).opt (p := p0 pp) rfl 2 (by omega)
          have o2 : wr.cell? ⟨pp, 2, none⟩ = some (.bool false) := hoff.cell
          obtain ⟨q, hq, hq1⟩ := id hDA.ps
          have k1 := hq.root
          have k6 := hq.corner
          rw [hq1] at k1
          go_wp2_with fail
          go_quiet (fail)
          go_wp2_with fail
          go_ret2
          exact ⟨bp, rk, _, rfl, hDA.same ((Mods.refl _ wr).drewN nq)⟩

theorem parser_Parse (pp : Nat) (s : ByteArray) (w : World) (hs : OneLine s) (all : List Pc) (hg : Plan s 0 0 all) (hO : Off w pp) :
    Calls Tryz.prog 47 #[.pointer (some ⟨pp, 0, none⟩), .string s] w fun e w' => ∃ bp rk, e = .returned (.pointer (some ⟨rk, 0, none⟩)) ∧ DocAt w w' bp rk pp s all := by
  go_enter Tryz.func47, Tryz.ntmps47
  go_wp2_with fail
  refine (parse_line pp s w hs all hg hO).mono ?_
  rintro e w' ⟨bp, rk, c, rfl, hD⟩
  go_wp2_with fail
  go_ret
  exact ⟨bp, rk, rfl, hD⟩
end Go.Proofs.YtmmopoofheblbaaGreatDoor

/- impl.parser; the table of the HTML escaper; Document, Paragraph and Text to HTML. -/
namespace Go.Proofs.YtmmopoofheblbaaGreatDoor
open Go Go.RowKit Go.Proofs

/-- The table of the escaper, as it lies in memory. -/
def escCells : Array Value := #[.string ⟨#[34]⟩, .string ⟨#[38, 113, 117, 111, 116, 59]⟩, .string ⟨#[38]⟩, .string ⟨#[38, 97, 109, 112, 59]⟩, .string ⟨#[60]⟩, .string ⟨#[38, 108, 116, 59]⟩, .string ⟨#[62]⟩, .string ⟨#[38, 103, 116, 59]⟩]

theorem htmlEscaper_any (w : World) :
    Calls Tryz.prog 333 #[] w fun e w' => e = .returned (.slice (some ⟨w.heap.size, 0, none⟩) 8 8) ∧ w' = w.alloc (.cells escCells 9) := by
  go_enter Tryz.func333, Tryz.ntmps333
  go_wp2_with fail
  go_ret
  exact ⟨rfl, rfl⟩

/-- What escaping makes of one byte. -/
def escB (c : UInt8) : List UInt8 := if c = 34 then [38, 113, 117, 111, 116, 59] else if c = 38 then [38, 97, 109, 112, 59] else if c = 60 then [38, 108, 116, 59] else if c = 62 then [38, 103, 116, 59] else [c]

theorem impl_parser (w : World) :
    Calls Tryz.prog 46 #[.agg #[.bool false, .bool false, .bool false, .bool false, .bool false, .bool false, .bool false, .bool false, .bool false, .bool false]] w fun e w' => ∃ pp, e = .returned (.pointer (some ⟨pp, 0, none⟩)) ∧ Same w w' ∧ w.heap.size ≤ pp ∧ Off w' pp := by
  go_enter Tryz.func46, Tryz.ntmps46
  go_wp2_with fail
  go_ret
  refine ⟨w.heap.size + 1, rfl, ((Mods.refl _ w).alloc _).alloc _, by omega, ⟨by simp, _, Blk.newAt (n := w.heap.size + 1) _ _ (by simp), fun k hk => ?_⟩⟩
  have : k = 0 ∨ k = 1 ∨ k = 2 ∨ k = 3 ∨ k = 4 ∨ k = 5 ∨ k = 6 ∨ k = 7 ∨ k = 8 ∨ k = 9 := by omega
  rcases this with rfl | rfl | rfl | rfl | rfl | rfl | rfl | rfl | rfl | rfl <;> rfl
end Go.Proofs.YtmmopoofheblbaaGreatDoor

/-
  DERIVED: THE SHELF's CONTRACTS AT THIS DUMP, IN PLAIN WORDS (tools/lay-plain.mjs out of 'TryzShelf.lean', which tools/lay-shelf.mjs wrote): THE SAME DECLARATIONS UNDER THE SAME NAMES: 'import', 'namespace', 'open', 'def', 'theorem' AND NOTHING ELSE: no command of the shelf's: FOR A HAND-IN. Each laying: the table of numbers ('.._ren') and one theorem, a field a fact of the dump's own or the kernel's comparison; each contract: ONE APPLICATION.
-/
namespace Go.Proofs
open Go.Shelf
def Tryz.lays170_ren : Go.Shelf.Ren := ⟨fun | 170 => 201 | n => n, fun | 70 => 183 | 3 => 3 | 0 => 0 | 72 => 185 | 37 => 78 | 5 => 5 | n => n, fun | n => n⟩
theorem Tryz.lays170 : Go.Proofs.Lays.n170 Tryz.prog Tryz.lays170_ren := {
  mixed := by kernel_rfl
  f170 := Tryz.func201.trans (congrArg some (by kernel_rfl))
  t0 := Tryz.underlying0
  a0 := Tryz.isAgg0
  z0 := Tryz.sizeOf0
  v0 := Tryz.zeroValue0
  t3 := Tryz.underlying3
  a3 := Tryz.isAgg3
  z3 := Tryz.sizeOf3
  v3 := Tryz.zeroValue3
  t37 := Tryz.underlying78
  a37 := Tryz.isAgg78
  z37 := Tryz.sizeOf78
  v37 := Tryz.zeroValue78
  t70 := Tryz.underlying183
  a70 := Tryz.isAgg183
  z70 := Tryz.sizeOf183
  v70 := Tryz.zeroValue183
  t72 := Tryz.underlying185
  a72 := Tryz.isAgg185
  z72 := Tryz.sizeOf185
  v72 := Tryz.zeroValue185 }
open Go.RowKit in
/-- (*strings.Builder).Len: "Len returns the number of accumulated bytes; b.Len() == len(b.String()).": the world is as it was. (LAID: no walk: one application.) -/
theorem Tryz.Builder_Len (B b : Nat) (bs : List Value) (w : World) (h : Lib.IsBuilder 185 5 B b bs w) :
    Calls Tryz.prog 201 #[.pointer (some ⟨b, 0, none⟩)] w fun e w' => e = .returned (.int .i64 bs.length) ∧ w' = w := Any.Builder_Len Tryz.lays170 B b bs w h
def Tryz.lays169_ren : Go.Shelf.Ren := ⟨fun | 169 => 98 | n => n, fun | 70 => 183 | 9 => 9 | 0 => 0 | 72 => 185 | 37 => 78 | 127 => 258 | 3 => 3 | 5 => 5 | n => n, fun | n => n⟩
theorem Tryz.lays169 : Go.Proofs.Lays.n169 Tryz.prog Tryz.lays169_ren := {
  mixed := by kernel_rfl
  f169 := Tryz.func98.trans (congrArg some (by kernel_rfl))
  t0 := Tryz.underlying0
  a0 := Tryz.isAgg0
  z0 := Tryz.sizeOf0
  v0 := Tryz.zeroValue0
  t3 := Tryz.underlying3
  a3 := Tryz.isAgg3
  z3 := Tryz.sizeOf3
  v3 := Tryz.zeroValue3
  t9 := Tryz.underlying9
  a9 := Tryz.isAgg9
  z9 := Tryz.sizeOf9
  v9 := Tryz.zeroValue9
  t37 := Tryz.underlying78
  a37 := Tryz.isAgg78
  z37 := Tryz.sizeOf78
  v37 := Tryz.zeroValue78
  t70 := Tryz.underlying183
  a70 := Tryz.isAgg183
  z70 := Tryz.sizeOf183
  v70 := Tryz.zeroValue183
  t72 := Tryz.underlying185
  a72 := Tryz.isAgg185
  z72 := Tryz.sizeOf185
  v72 := Tryz.zeroValue185
  t127 := Tryz.underlying258
  a127 := Tryz.isAgg258
  z127 := Tryz.sizeOf258
  v127 := Tryz.zeroValue258 }
theorem Tryz.Builder_Extra_169 : Builder.Extra Tryz.prog Tryz.lays169_ren := {
  sizeBuilder := by kernel_rfl
  liesBuilder := by kernel_rfl
  t5 := Tryz.underlying5
  a5 := Tryz.isAgg5
  z5 := Tryz.sizeOf5
  v5 := Tryz.zeroValue5
  infoByte := by kernel_rfl
  cellsByte := by kernel_rfl
  sizeByte := by kernel_rfl
  neB5 := by decide }
open Go.RowKit in
/-- (*strings.Builder).String: "String returns the accumulated string.": OF A BUILDER THAT HOLDS AT LEAST ONE BYTE. ✋ THE MODEL FREEZES THOSE BYTES IN THE BUFFER (unsafe.String): a later write INTO them ends the model's run without an answer; a later append BEHIND them goes on. The statement's order of evaluation is drawn: one draw. (LAID: no walk: one application.) -/
theorem Tryz.Builder_String (B b : Nat) (l : List UInt8) (w : World) (h : Lib.IsBuilder 185 5 B b (Lib.byteCells l) w) (h0 : l ≠ []) :
    Calls Tryz.prog 98 #[.pointer (some ⟨b, 0, none⟩)] w fun e w' => e = .returned (.string ⟨l.toArray⟩) ∧ Below B w w' := Any.Builder_String Tryz.lays169 Tryz.Builder_Extra_169 B b l w h h0
open Go.RowKit in
/-- (*strings.Builder).String OF A BUILDER THAT HOLDS NO BYTE: the empty string. (Its buffer is nil, or a row of which it has taken nothing yet; where that row has NO capacity the model lays one new block for unsafe.SliceData's 'some address'.) One draw. (LAID: no walk: one application.) -/
theorem Tryz.Builder_String_empty (B b : Nat) (w : World) (h : Lib.IsBuilder 185 5 B b [] w) (hBw : B ≤ w.heap.size) :
    Calls Tryz.prog 98 #[.pointer (some ⟨b, 0, none⟩)] w fun e w' => e = .returned (.string ⟨#[]⟩) ∧ Below B w w' := Any.Builder_String_empty Tryz.lays169 Tryz.Builder_Extra_169 B b w h hBw
open Go.RowKit in
/-- (*strings.Builder).String: "String returns the accumulated string.": WHATEVER THE BUILDER HOLDS. (LAID: no walk: one application.) -/
theorem Tryz.Builder_String_any (B b : Nat) (l : List UInt8) (w : World) (h : Lib.IsBuilder 185 5 B b (Lib.byteCells l) w) (hBw : B ≤ w.heap.size) :
    Calls Tryz.prog 98 #[.pointer (some ⟨b, 0, none⟩)] w fun e w' => e = .returned (.string ⟨l.toArray⟩) ∧ Below B w w' := Any.Builder_String_any Tryz.lays169 Tryz.Builder_Extra_169 B b l w h hBw
def Tryz.lays241_ren : Go.Shelf.Ren := ⟨fun | 241 => 243 | 277 => 266 | n => n, fun | 70 => 183 | 3 => 3 | 0 => 0 | 72 => 185 | 37 => 78 | 5 => 5 | n => n, fun | n => n⟩
theorem Tryz.lays241 : Go.Proofs.Lays.n241 Tryz.prog Tryz.lays241_ren := {
  mixed := by kernel_rfl
  f241 := Tryz.func243.trans (congrArg some (by kernel_rfl))
  f277 := Tryz.func266.trans (congrArg some (by kernel_rfl))
  t0 := Tryz.underlying0
  a0 := Tryz.isAgg0
  z0 := Tryz.sizeOf0
  v0 := Tryz.zeroValue0
  t3 := Tryz.underlying3
  a3 := Tryz.isAgg3
  z3 := Tryz.sizeOf3
  v3 := Tryz.zeroValue3
  t37 := Tryz.underlying78
  a37 := Tryz.isAgg78
  z37 := Tryz.sizeOf78
  v37 := Tryz.zeroValue78
  t70 := Tryz.underlying183
  a70 := Tryz.isAgg183
  z70 := Tryz.sizeOf183
  v70 := Tryz.zeroValue183
  t72 := Tryz.underlying185
  a72 := Tryz.isAgg185
  z72 := Tryz.sizeOf185
  v72 := Tryz.zeroValue185 }
theorem Tryz.Builder_Extra_241 : Builder.Extra Tryz.prog Tryz.lays241_ren := {
  sizeBuilder := by kernel_rfl
  liesBuilder := by kernel_rfl
  t5 := Tryz.underlying5
  a5 := Tryz.isAgg5
  z5 := Tryz.sizeOf5
  v5 := Tryz.zeroValue5
  infoByte := by kernel_rfl
  cellsByte := by kernel_rfl
  sizeByte := by kernel_rfl
  neB5 := by decide }
open Go.RowKit in
/-- (*strings.Builder).grow (no doc but "grow copies the buffer to a new, larger buffer so that there are at least n bytes of capacity beyond len(b.buf)."): AT A BUILDER WITHOUT A BUFFER: a new row of whatever bytes for its buffer, none of them its own yet. Three draws. (LAID: no walk: one application.) -/
theorem Tryz.Builder_grow_fresh (B b n : Nat) (w : World) (hB : B ≤ b) (hbk : w.heap[b]? = some (.cells #[.pointer (some ⟨b, 0, none⟩), .slice none 0 0] 185 (0, 0))) (hBw : B ≤ w.heap.size) (hn : n ≤ 281474976710656) :
    Calls Tryz.prog 243 #[.pointer (some ⟨b, 0, none⟩), .int .i64 n] w fun e w' => e = .returned (.tuple #[]) ∧ (Lib.BuilderAt 185 5 B b (.pointer (some ⟨b, 0, none⟩)) [] w' ∧ Below B w w') := Any.Builder_grow_fresh Tryz.lays241 Tryz.Builder_Extra_241 B b n w hB hbk hBw hn
def Tryz.lays165_ren : Go.Shelf.Ren := ⟨fun | 165 => 200 | 240 => 135 | 241 => 243 | 276 => 183 | 277 => 266 | n => n, fun | 70 => 183 | 3 => 3 | 0 => 0 | 4 => 4 | 9 => 9 | 20 => 20 | 72 => 185 | 37 => 78 | 164 => 307 | 5 => 5 | n => n, fun | n => n⟩
theorem Tryz.lays165 : Go.Proofs.Lays.n165 Tryz.prog Tryz.lays165_ren := {
  mixed := by kernel_rfl
  f165 := Tryz.func200.trans (congrArg some (by kernel_rfl))
  f240 := Tryz.func135.trans (congrArg some (by kernel_rfl))
  f241 := Tryz.func243.trans (congrArg some (by kernel_rfl))
  f276 := Tryz.func183.trans (congrArg some (by kernel_rfl))
  f277 := Tryz.func266.trans (congrArg some (by kernel_rfl))
  t0 := Tryz.underlying0
  a0 := Tryz.isAgg0
  z0 := Tryz.sizeOf0
  v0 := Tryz.zeroValue0
  t3 := Tryz.underlying3
  a3 := Tryz.isAgg3
  z3 := Tryz.sizeOf3
  v3 := Tryz.zeroValue3
  t4 := Tryz.underlying4
  a4 := Tryz.isAgg4
  z4 := Tryz.sizeOf4
  v4 := Tryz.zeroValue4
  t9 := Tryz.underlying9
  a9 := Tryz.isAgg9
  z9 := Tryz.sizeOf9
  v9 := Tryz.zeroValue9
  t20 := Tryz.underlying20
  a20 := Tryz.isAgg20
  z20 := Tryz.sizeOf20
  v20 := Tryz.zeroValue20
  t37 := Tryz.underlying78
  a37 := Tryz.isAgg78
  z37 := Tryz.sizeOf78
  v37 := Tryz.zeroValue78
  t70 := Tryz.underlying183
  a70 := Tryz.isAgg183
  z70 := Tryz.sizeOf183
  v70 := Tryz.zeroValue183
  t72 := Tryz.underlying185
  a72 := Tryz.isAgg185
  z72 := Tryz.sizeOf185
  v72 := Tryz.zeroValue185
  t164 := Tryz.underlying307
  a164 := Tryz.isAgg307
  z164 := Tryz.sizeOf307
  v164 := Tryz.zeroValue307 }
theorem Tryz.Builder_Extra_165 : Builder.Extra Tryz.prog Tryz.lays165_ren := {
  sizeBuilder := by kernel_rfl
  liesBuilder := by kernel_rfl
  t5 := Tryz.underlying5
  a5 := Tryz.isAgg5
  z5 := Tryz.sizeOf5
  v5 := Tryz.zeroValue5
  infoByte := by kernel_rfl
  cellsByte := by kernel_rfl
  sizeByte := by kernel_rfl
  neB5 := by decide }
open Go.RowKit in
/-- (*strings.Builder).Grow AT A BUILDER THAT HAS NOT BEEN WRITTEN ('var b strings.Builder; b.Grow(n)'): "Grow grows b's capacity, if necessary, to guarantee space for another n bytes.": it holds no byte behind it as before it. (LAID: no walk: one application.) -/
theorem Tryz.Builder_Grow_fresh (B b n : Nat) (w : World) (hB : B ≤ b) (hbk : w.heap[b]? = some (.cells #[.pointer none, .slice none 0 0] 185 (0, 0))) (hBw : B ≤ w.heap.size) (hn : n ≤ 281474976710656) :
    Calls Tryz.prog 200 #[.pointer (some ⟨b, 0, none⟩), .int .i64 n] w fun e w' => e = .returned (.tuple #[]) ∧ (Lib.BuilderAt 185 5 B b (.pointer (some ⟨b, 0, none⟩)) [] w' ∧ Below B w w') := Any.Builder_Grow_fresh Tryz.lays165 Tryz.Builder_Extra_165 B b n w hB hbk hBw hn
def Tryz.lays156_ren : Go.Shelf.Ren := ⟨fun | 156 => 209 | 165 => 200 | 166 => 96 | 169 => 98 | 240 => 135 | 241 => 243 | 276 => 183 | 277 => 266 | n => n, fun | 31 => 34 | 9 => 9 | 3 => 3 | 4 => 4 | 0 => 0 | 20 => 20 | 72 => 185 | 76 => 188 | 70 => 183 | 37 => 78 | 75 => 187 | 127 => 258 | 164 => 307 | 5 => 5 | 80 => 98 | n => n, fun | n => n⟩
theorem Tryz.lays156 : Go.Proofs.Lays.n156 Tryz.prog Tryz.lays156_ren := {
  mixed := by kernel_rfl
  f156 := Tryz.func209.trans (congrArg some (by kernel_rfl))
  f165 := Tryz.func200.trans (congrArg some (by kernel_rfl))
  f166 := Tryz.func96.trans (congrArg some (by kernel_rfl))
  f169 := Tryz.func98.trans (congrArg some (by kernel_rfl))
  f240 := Tryz.func135.trans (congrArg some (by kernel_rfl))
  f241 := Tryz.func243.trans (congrArg some (by kernel_rfl))
  f276 := Tryz.func183.trans (congrArg some (by kernel_rfl))
  f277 := Tryz.func266.trans (congrArg some (by kernel_rfl))
  t0 := Tryz.underlying0
  a0 := Tryz.isAgg0
  z0 := Tryz.sizeOf0
  v0 := Tryz.zeroValue0
  t3 := Tryz.underlying3
  a3 := Tryz.isAgg3
  z3 := Tryz.sizeOf3
  v3 := Tryz.zeroValue3
  t4 := Tryz.underlying4
  a4 := Tryz.isAgg4
  z4 := Tryz.sizeOf4
  v4 := Tryz.zeroValue4
  t9 := Tryz.underlying9
  a9 := Tryz.isAgg9
  z9 := Tryz.sizeOf9
  v9 := Tryz.zeroValue9
  t20 := Tryz.underlying20
  a20 := Tryz.isAgg20
  z20 := Tryz.sizeOf20
  v20 := Tryz.zeroValue20
  t31 := Tryz.underlying34
  a31 := Tryz.isAgg34
  z31 := Tryz.sizeOf34
  v31 := Tryz.zeroValue34
  t37 := Tryz.underlying78
  a37 := Tryz.isAgg78
  z37 := Tryz.sizeOf78
  v37 := Tryz.zeroValue78
  t70 := Tryz.underlying183
  a70 := Tryz.isAgg183
  z70 := Tryz.sizeOf183
  v70 := Tryz.zeroValue183
  t72 := Tryz.underlying185
  a72 := Tryz.isAgg185
  z72 := Tryz.sizeOf185
  v72 := Tryz.zeroValue185
  t75 := Tryz.underlying187
  a75 := Tryz.isAgg187
  z75 := Tryz.sizeOf187
  v75 := Tryz.zeroValue187
  t76 := Tryz.underlying188
  a76 := Tryz.isAgg188
  z76 := Tryz.sizeOf188
  v76 := Tryz.zeroValue188
  t127 := Tryz.underlying258
  a127 := Tryz.isAgg258
  z127 := Tryz.sizeOf258
  v127 := Tryz.zeroValue258
  t164 := Tryz.underlying307
  a164 := Tryz.isAgg307
  z164 := Tryz.sizeOf307
  v164 := Tryz.zeroValue307 }
theorem Tryz.Builder_Extra_156 : Builder.Extra Tryz.prog Tryz.lays156_ren := {
  sizeBuilder := by kernel_rfl
  liesBuilder := by kernel_rfl
  t5 := Tryz.underlying5
  a5 := Tryz.isAgg5
  z5 := Tryz.sizeOf5
  v5 := Tryz.zeroValue5
  infoByte := by kernel_rfl
  cellsByte := by kernel_rfl
  sizeByte := by kernel_rfl
  neB5 := by decide }
open Go.RowKit in
/-- No element: the empty string; the world is as it was. (Whatever the slice's address and capacity: a nil slice too.) (LAID: no walk: one application.) -/
theorem Tryz.strings_Join_none (a : Option Addr) (c : Nat) (sep : ByteArray) (w : World) :
    Calls Tryz.prog 209 #[.slice a 0 c, .string sep] w fun e w' => e = .returned (.string ⟨#[]⟩) ∧ w' = w := Any.strings_Join_none Tryz.lays156 Tryz.Builder_Extra_156 a c sep w
open Go.RowKit in
/-- strings.Join: "Join concatenates the elements of its first argument to create a single string. The separator string sep is placed between elements in the resulting string.": HOWEVER MANY ELEMENTS. Below the heap's end the world is as it was. (LAID: no walk: one application.) -/
theorem Tryz.strings_Join (bk o c : Nat) (xs : List ByteArray) (sep : ByteArray) (w : World) (hcells : ∀ (j : Nat) x, xs[j]? = some x → w.cell? ⟨bk, o + j, none⟩ = some (.string x)) (hbk : bk < w.heap.size) (hN : xs.length ≤ 140737488355328) (hcap : xs.length ≤ c) (hlen : (Lib.join (xs.map (·.data.toList)) sep.data.toList).length ≤ 140737488355328) :
    Calls Tryz.prog 209 #[.slice (some ⟨bk, o, none⟩) xs.length c, .string sep] w fun e w' => e = .returned (.string ⟨(Lib.join (xs.map (·.data.toList)) sep.data.toList).toArray⟩) ∧ Below w.heap.size w w' := Any.strings_Join Tryz.lays156 Tryz.Builder_Extra_156 bk o c xs sep w hcells hbk hN hcap hlen
def Tryz.lays120_ren : Go.Shelf.Ren := ⟨fun | 120 => 195 | n => n, fun | 5 => 5 | 4 => 4 | n => n, fun | n => n⟩
theorem Tryz.lays120 : Go.Proofs.Lays.n120 Tryz.prog Tryz.lays120_ren := {
  mixed := by kernel_rfl
  f120 := Tryz.func195.trans (congrArg some (by kernel_rfl))
  t4 := Tryz.underlying4
  a4 := Tryz.isAgg4
  z4 := Tryz.sizeOf4
  v4 := Tryz.zeroValue4
  t5 := Tryz.underlying5
  a5 := Tryz.isAgg5
  z5 := Tryz.sizeOf5
  v5 := Tryz.zeroValue5 }
/-- utf8.RuneStart: "RuneStart reports whether the byte could be the first byte of an encoded, possibly invalid rune. Second and subsequent bytes always have the top two bits set to 10.": IT RETURNS 'Lib.runeStart b'; the world is as it was. ('h0', 'h1': b is a byte: a caller has it of every byte that it was handed.) (LAID: no walk: one application.) -/
theorem Tryz.utf8_RuneStart (b : Int) (w : World) (h0 : 0 ≤ b) (h1 : b < 256) :
    Calls Tryz.prog 195 #[.int .u8 b] w fun e w' => e = .returned (.bool (Lib.runeStart b)) ∧ w' = w := Any.utf8_RuneStart Tryz.lays120 b w h0 h1
def Tryz.lays213_ren : Go.Shelf.Ren := ⟨fun | 213 => 95 | 265 => 134 | n => n, fun | 9 => 9 | 3 => 3 | n => n, fun | n => n⟩
theorem Tryz.lays213 : Go.Proofs.Lays.n213 Tryz.prog Tryz.lays213_ren := {
  mixed := by kernel_rfl
  f213 := Tryz.func95.trans (congrArg some (by kernel_rfl))
  f265 := Tryz.func134.trans (congrArg some (by kernel_rfl))
  t3 := Tryz.underlying3
  a3 := Tryz.isAgg3
  z3 := Tryz.sizeOf3
  v3 := Tryz.zeroValue3
  t9 := Tryz.underlying9
  a9 := Tryz.isAgg9
  z9 := Tryz.sizeOf9
  v9 := Tryz.zeroValue9 }
open Go.RowKit in
/-- internal/bytealg.CompareString (what strings.Compare calls): IT RETURNS 'Lib.compareBytes a b'; the world is as it was. (LAID: no walk: one application.) -/
theorem Tryz.bytealg_CompareString (a b : ByteArray) (w : World) :
    Calls Tryz.prog 95 #[.string a, .string b] w fun e w' => e = .returned (.int .i64 (Lib.compareBytes a.data.toList b.data.toList)) ∧ w' = w := Any.bytealg_CompareString Tryz.lays213 a b w
def Tryz.lays106_ren : Go.Shelf.Ren := ⟨fun | 106 => 75 | 213 => 95 | 265 => 134 | n => n, fun | 9 => 9 | 3 => 3 | n => n, fun | n => n⟩
theorem Tryz.lays106 : Go.Proofs.Lays.n106 Tryz.prog Tryz.lays106_ren := {
  mixed := by kernel_rfl
  f106 := Tryz.func75.trans (congrArg some (by kernel_rfl))
  f213 := Tryz.func95.trans (congrArg some (by kernel_rfl))
  f265 := Tryz.func134.trans (congrArg some (by kernel_rfl))
  t3 := Tryz.underlying3
  a3 := Tryz.isAgg3
  z3 := Tryz.sizeOf3
  v3 := Tryz.zeroValue3
  t9 := Tryz.underlying9
  a9 := Tryz.isAgg9
  z9 := Tryz.sizeOf9
  v9 := Tryz.zeroValue9 }
open Go.RowKit in
/-- strings.Compare: "Compare returns an integer comparing two strings lexicographically. The result will be 0 if a == b, -1 if a < b, and +1 if a > b.": IT RETURNS 'Lib.compareBytes a b'; the world is as it was. (LAID: no walk: one application.) -/
theorem Tryz.strings_Compare (a b : ByteArray) (w : World) :
    Calls Tryz.prog 75 #[.string a, .string b] w fun e w' => e = .returned (.int .i64 (Lib.compareBytes a.data.toList b.data.toList)) ∧ w' = w := Any.strings_Compare Tryz.lays106 a b w
def Tryz.lays137_ren : Go.Shelf.Ren := ⟨fun | 137 => 48 | 217 => 69 | 266 => 92 | n => n, fun | 9 => 9 | 5 => 5 | 3 => 3 | n => n, fun | n => n⟩
theorem Tryz.lays137 : Go.Proofs.Lays.n137 Tryz.prog Tryz.lays137_ren := {
  mixed := by kernel_rfl
  f137 := Tryz.func48.trans (congrArg some (by kernel_rfl))
  f217 := Tryz.func69.trans (congrArg some (by kernel_rfl))
  f266 := Tryz.func92.trans (congrArg some (by kernel_rfl))
  t3 := Tryz.underlying3
  a3 := Tryz.isAgg3
  z3 := Tryz.sizeOf3
  v3 := Tryz.zeroValue3
  t5 := Tryz.underlying5
  a5 := Tryz.isAgg5
  z5 := Tryz.sizeOf5
  v5 := Tryz.zeroValue5
  t9 := Tryz.underlying9
  a9 := Tryz.isAgg9
  z9 := Tryz.sizeOf9
  v9 := Tryz.zeroValue9 }
open Go.RowKit in
/-- strings.IndexByte: "IndexByte returns the index of the first instance of c in s, or -1 if c is not present in s.": IT RETURNS 'Lib.indexByte s c'; the world is as it was. (LAID: no walk: one application.) -/
theorem Tryz.strings_IndexByte (s : ByteArray) (c : Int) (w : World) :
    Calls Tryz.prog 48 #[.string s, .int .u8 c] w fun e w' => e = .returned (.int .i64 (Lib.indexByte s.data.toList c.toNat.toUInt8)) ∧ w' = w := Any.strings_IndexByte Tryz.lays137 s c w
open Go.RowKit in
/-- (*strings.Builder).Len: "Len returns the number of accumulated bytes; b.Len() == len(b.String()).": the world is as it was. (THE FORM '_f': 'Lib.IsBuilderF'.) (LAID: no walk: one application.) -/
theorem Tryz.Builder_Len_f (B b : Nat) (bs : List Value) (w : World) (h : Lib.IsBuilderF 185 5 B b bs w) :
    Calls Tryz.prog 201 #[.pointer (some ⟨b, 0, none⟩)] w fun e w' => e = .returned (.int .i64 bs.length) ∧ w' = w := Any.Builder_Len_f Tryz.lays170 B b bs w h
open Go.RowKit in
/-- (*strings.Builder).String: "String returns the accumulated string.": OF A BUILDER THAT HOLDS AT LEAST ONE BYTE. ✋ THE MODEL FREEZES THOSE BYTES IN THE BUFFER (unsafe.String): a later write INTO them ends the model's run without an answer; a later append BEHIND them goes on. The statement's order of evaluation is drawn: one draw. THE FORM '_f': IT SAYS BESIDES THAT THE BUILDER IS A BUILDER STILL ('Lib.IsBuilderF', the same bytes): SO IT CAN BE WRITTEN ON: 'b.WriteString(b.String()[:k])'. (LAID: no walk: one application.) -/
theorem Tryz.Builder_String_f (B b : Nat) (l : List UInt8) (w : World) (h : Lib.IsBuilderF 185 5 B b (Lib.byteCells l) w) (h0 : l ≠ []) :
    Calls Tryz.prog 98 #[.pointer (some ⟨b, 0, none⟩)] w fun e w' => e = .returned (.string ⟨l.toArray⟩) ∧ (Lib.IsBuilderF 185 5 B b (Lib.byteCells l) w' ∧ Below B w w') := Any.Builder_String_f Tryz.lays169 Tryz.Builder_Extra_169 B b l w h h0
open Go.RowKit in
/-- (*strings.Builder).String OF A BUILDER THAT HOLDS NO BYTE: the empty string; THE FORM '_f': a builder still. (LAID: no walk: one application.) -/
theorem Tryz.Builder_String_empty_f (B b : Nat) (w : World) (h : Lib.IsBuilderF 185 5 B b [] w) (hBw : B ≤ w.heap.size) :
    Calls Tryz.prog 98 #[.pointer (some ⟨b, 0, none⟩)] w fun e w' => e = .returned (.string ⟨#[]⟩) ∧ (Lib.IsBuilderF 185 5 B b [] w' ∧ Below B w w') := Any.Builder_String_empty_f Tryz.lays169 Tryz.Builder_Extra_169 B b w h hBw
open Go.RowKit in
/-- (*strings.Builder).String: "String returns the accumulated string.": WHATEVER THE BUILDER HOLDS; THE FORM '_f': OF A BUILDER THAT MAY HAVE BEEN READ BEFORE; AND IT IS A BUILDER STILL, holding the same bytes: it can be written on. (LAID: no walk: one application.) -/
theorem Tryz.Builder_String_any_f (B b : Nat) (l : List UInt8) (w : World) (h : Lib.IsBuilderF 185 5 B b (Lib.byteCells l) w) (hBw : B ≤ w.heap.size) :
    Calls Tryz.prog 98 #[.pointer (some ⟨b, 0, none⟩)] w fun e w' => e = .returned (.string ⟨l.toArray⟩) ∧ (Lib.IsBuilderF 185 5 B b (Lib.byteCells l) w' ∧ Below B w w') := Any.Builder_String_any_f Tryz.lays169 Tryz.Builder_Extra_169 B b l w h hBw
open Go.RowKit in
/-- (*strings.Builder).String: "String returns the accumulated string.": OF A BUILDER THAT HOLDS AT LEAST ONE BYTE. ✋ THE MODEL FREEZES THOSE BYTES IN THE BUFFER (unsafe.String): a later write INTO them ends the model's run without an answer; a later append BEHIND them goes on. The statement's order of evaluation is drawn: one draw. THE FORM '_k': OVER 'Lib.IsBuilderF' (a builder that 'String()' may have read), AND WITH THE FRAME THAT REACHES ABOVE THE BUILDER: 'Lib.OthersKept': every block that is not b and is no row of uint8's stands as it stood: the iterator of a range among them. (LAID: no walk: one application.) -/
theorem Tryz.Builder_String_k (B b : Nat) (l : List UInt8) (w : World) (h : Lib.IsBuilderF 185 5 B b (Lib.byteCells l) w) (h0 : l ≠ []) :
    Calls Tryz.prog 98 #[.pointer (some ⟨b, 0, none⟩)] w fun e w' => e = .returned (.string ⟨l.toArray⟩) ∧ (Lib.IsBuilderF 185 5 B b (Lib.byteCells l) w' ∧ Below B w w' ∧ Lib.OthersKept 5 (some b) w w') := Any.Builder_String_k Tryz.lays169 Tryz.Builder_Extra_169 B b l w h h0
open Go.RowKit in
/-- (*strings.Builder).String OF A BUILDER THAT HOLDS NO BYTE: the empty string; THE FORM '_k': OVER 'Lib.IsBuilderF' (a builder that 'String()' may have read), AND WITH THE FRAME THAT REACHES ABOVE THE BUILDER: 'Lib.OthersKept': every block that is not b and is no row of uint8's stands as it stood: the iterator of a range among them. (LAID: no walk: one application.) -/
theorem Tryz.Builder_String_empty_k (B b : Nat) (w : World) (h : Lib.IsBuilderF 185 5 B b [] w) (hBw : B ≤ w.heap.size) :
    Calls Tryz.prog 98 #[.pointer (some ⟨b, 0, none⟩)] w fun e w' => e = .returned (.string ⟨#[]⟩) ∧ (Lib.IsBuilderF 185 5 B b [] w' ∧ Below B w w' ∧ Lib.OthersKept 5 (some b) w w') := Any.Builder_String_empty_k Tryz.lays169 Tryz.Builder_Extra_169 B b w h hBw
open Go.RowKit in
/-- (*strings.Builder).String: "String returns the accumulated string.": WHATEVER THE BUILDER HOLDS; THE FORM '_k': OVER 'Lib.IsBuilderF' (a builder that 'String()' may have read), AND WITH THE FRAME THAT REACHES ABOVE THE BUILDER: 'Lib.OthersKept': every block that is not b and is no row of uint8's stands as it stood: the iterator of a range among them. (LAID: no walk: one application.) -/
theorem Tryz.Builder_String_any_k (B b : Nat) (l : List UInt8) (w : World) (h : Lib.IsBuilderF 185 5 B b (Lib.byteCells l) w) (hBw : B ≤ w.heap.size) :
    Calls Tryz.prog 98 #[.pointer (some ⟨b, 0, none⟩)] w fun e w' => e = .returned (.string ⟨l.toArray⟩) ∧ (Lib.IsBuilderF 185 5 B b (Lib.byteCells l) w' ∧ Below B w w' ∧ Lib.OthersKept 5 (some b) w w') := Any.Builder_String_any_k Tryz.lays169 Tryz.Builder_Extra_169 B b l w h hBw
def Tryz.laysM181_ren : Go.Shelf.Ren := ⟨fun | 181 => 314 | n => n, fun | 130 => 97 | 3 => 3 | 0 => 0 | 93 => 95 | 37 => 78 | 91 => 93 | 5 => 5 | n => n, fun | n => n⟩
theorem Tryz.laysM181 : Go.Proofs.LaysM.n181 Tryz.prog Tryz.laysM181_ren := {
  mixed := by kernel_rfl
  f181 := Tryz.func314.trans (congrArg some (by kernel_rfl))
  t0 := Tryz.underlying0
  a0 := Tryz.isAgg0
  z0 := Tryz.sizeOf0
  v0 := Tryz.zeroValue0
  t3 := Tryz.underlying3
  a3 := Tryz.isAgg3
  z3 := Tryz.sizeOf3
  v3 := Tryz.zeroValue3
  t37 := Tryz.underlying78
  a37 := Tryz.isAgg78
  z37 := Tryz.sizeOf78
  v37 := Tryz.zeroValue78
  t93 := Tryz.underlying95
  a93 := Tryz.isAgg95
  z93 := Tryz.sizeOf95
  v93 := Tryz.zeroValue95
  t130 := Tryz.underlying97
  a130 := Tryz.isAgg97
  z130 := Tryz.sizeOf97
  v130 := Tryz.zeroValue97
  t5 := Tryz.underlying5
  a5 := Tryz.isAgg5
  z5 := Tryz.sizeOf5
  v5 := Tryz.zeroValue5
  t91 := Tryz.underlying93
  a91 := Tryz.isAgg93
  z91 := Tryz.sizeOf93
  v91 := Tryz.zeroValue93
  i0 := by kernel_rfl
  i3 := by kernel_rfl
  i5 := by kernel_rfl
  i37 := by kernel_rfl
  i91 := by kernel_rfl
  i93 := by kernel_rfl
  i130 := by kernel_rfl }
open Go.RowKit in
/-- (*bytes.Buffer).Len: "Len returns the number of bytes of the unread portion of the buffer; b.Len() == len(b.Bytes()).": the world is as it was but for the count of draws (the statement has two reads: its order is drawn). (LAID: no walk: one application.) -/
theorem Tryz.Buffer_Len (B b : Nat) (bs : List Value) (w : World) (h : Lib.IsBuffer 95 5 B b bs w) :
    Calls Tryz.prog 314 #[.pointer (some ⟨b, 0, none⟩)] w fun e w' => e = .returned (.int .i64 bs.length) ∧ ∃ n, w' = w.drewN n := Any.Buffer_Len Tryz.laysM181 B b bs w h
def Tryz.laysM251_ren : Go.Shelf.Ren := ⟨fun | 251 => 311 | n => n, fun | 130 => 97 | 3 => 3 | 4 => 4 | 0 => 0 | 93 => 95 | 37 => 78 | 91 => 93 | 5 => 5 | n => n, fun | n => n⟩
theorem Tryz.laysM251 : Go.Proofs.LaysM.n251 Tryz.prog Tryz.laysM251_ren := {
  mixed := by kernel_rfl
  f251 := Tryz.func311.trans (congrArg some (by kernel_rfl))
  t0 := Tryz.underlying0
  a0 := Tryz.isAgg0
  z0 := Tryz.sizeOf0
  v0 := Tryz.zeroValue0
  t3 := Tryz.underlying3
  a3 := Tryz.isAgg3
  z3 := Tryz.sizeOf3
  v3 := Tryz.zeroValue3
  t4 := Tryz.underlying4
  a4 := Tryz.isAgg4
  z4 := Tryz.sizeOf4
  v4 := Tryz.zeroValue4
  t37 := Tryz.underlying78
  a37 := Tryz.isAgg78
  z37 := Tryz.sizeOf78
  v37 := Tryz.zeroValue78
  t93 := Tryz.underlying95
  a93 := Tryz.isAgg95
  z93 := Tryz.sizeOf95
  v93 := Tryz.zeroValue95
  t130 := Tryz.underlying97
  a130 := Tryz.isAgg97
  z130 := Tryz.sizeOf97
  v130 := Tryz.zeroValue97
  t5 := Tryz.underlying5
  a5 := Tryz.isAgg5
  z5 := Tryz.sizeOf5
  v5 := Tryz.zeroValue5
  t91 := Tryz.underlying93
  a91 := Tryz.isAgg93
  z91 := Tryz.sizeOf93
  v91 := Tryz.zeroValue93
  i0 := by kernel_rfl
  i3 := by kernel_rfl
  i4 := by kernel_rfl
  i5 := by kernel_rfl
  i37 := by kernel_rfl
  i91 := by kernel_rfl
  i93 := by kernel_rfl
  i130 := by kernel_rfl }
open Go.RowKit in
/-- (*bytes.Buffer).tryGrowByReslice: "tryGrowByReslice is an inlineable version of grow for the fast-case where the internal buffer only needs to be resliced. It returns the index where bytes should be written and whether it succeeded.": THERE IS ROOM: 'buf' is resliced to l + n. (LAID: no walk: one application.) -/
theorem Tryz.Buffer_tryGrow_room (b : Nat) (ao : Option Addr) (l cap n : Nat) (w : World) (c0 : w.cell? ⟨b, 0, none⟩ = some (.slice ao l cap)) (f0 : w.frozen? ⟨b, 0, none⟩ = false) (hlc : l ≤ cap) (hcap : cap ≤ maxLen) (hn : n ≤ cap - l) :
    Calls Tryz.prog 311 #[.pointer (some ⟨b, 0, none⟩), .int .i64 n] w fun e w' => e = .returned (.tuple #[.int .i64 l, .bool true]) ∧ w' = w.setCell ⟨b, 0, none⟩ (.slice ao (l + n) cap) := Any.Buffer_tryGrow_room Tryz.laysM251 b ao l cap n w c0 f0 hlc hcap hn
open Go.RowKit in
/-- .. THERE IS NONE: nothing turns. (LAID: no walk: one application.) -/
theorem Tryz.Buffer_tryGrow_none (b : Nat) (ao : Option Addr) (l cap n : Nat) (w : World) (c0 : w.cell? ⟨b, 0, none⟩ = some (.slice ao l cap)) (hlc : l ≤ cap) (hcap : cap ≤ maxLen) (hn : cap - l < n) :
    Calls Tryz.prog 311 #[.pointer (some ⟨b, 0, none⟩), .int .i64 n] w fun e w' => e = .returned (.tuple #[.int .i64 0, .bool false]) ∧ w' = w := Any.Buffer_tryGrow_none Tryz.laysM251 b ao l cap n w c0 hlc hcap hn
def Tryz.laysM324_ren : Go.Shelf.Ren := ⟨fun | 324 => 317 | n => n, fun | 20 => 20 | 4 => 4 | 75 => 187 | 0 => 0 | 80 => 98 | 9 => 9 | n => n, fun | 14 => 9 | n => n⟩
theorem Tryz.laysM324 : Go.Proofs.LaysM.n324 Tryz.prog Tryz.laysM324_ren := {
  mixed := by kernel_rfl
  f324 := Tryz.func317.trans (congrArg some (by kernel_rfl))
  t0 := Tryz.underlying0
  a0 := Tryz.isAgg0
  z0 := Tryz.sizeOf0
  v0 := Tryz.zeroValue0
  t4 := Tryz.underlying4
  a4 := Tryz.isAgg4
  z4 := Tryz.sizeOf4
  v4 := Tryz.zeroValue4
  t20 := Tryz.underlying20
  a20 := Tryz.isAgg20
  z20 := Tryz.sizeOf20
  v20 := Tryz.zeroValue20
  t75 := Tryz.underlying187
  a75 := Tryz.isAgg187
  z75 := Tryz.sizeOf187
  v75 := Tryz.zeroValue187
  g14 := by kernel_rfl
  t9 := Tryz.underlying9
  a9 := Tryz.isAgg9
  z9 := Tryz.sizeOf9
  v9 := Tryz.zeroValue9
  t80 := Tryz.underlying98
  a80 := Tryz.isAgg98
  z80 := Tryz.sizeOf98
  v80 := Tryz.zeroValue98
  i0 := by kernel_rfl
  i4 := by kernel_rfl
  i9 := by kernel_rfl
  i20 := by kernel_rfl
  i75 := by kernel_rfl
  i80 := by kernel_rfl
  m14 := by kernel_rfl }
theorem Tryz.growSlice_catch_idle (w : World) :
    CallsD Tryz.prog 317 #[] .returning w fun e u' w' => e = .returned (.tuple #[]) ∧ u' = .returning ∧ w' = w := Any.growSlice_catch_idle Tryz.laysM324 w
def Tryz.laysM290_ren : Go.Shelf.Ren := ⟨fun | 290 => 315 | 324 => 317 | n => n, fun | 37 => 78 | 3 => 3 | 0 => 0 | 4 => 4 | 20 => 20 | 75 => 187 | 5 => 5 | 80 => 98 | 9 => 9 | n => n, fun | 14 => 9 | n => n⟩
theorem Tryz.laysM290 : Go.Proofs.LaysM.n290 Tryz.prog Tryz.laysM290_ren := {
  mixed := by kernel_rfl
  f290 := Tryz.func315.trans (congrArg some (by kernel_rfl))
  f324 := Tryz.func317.trans (congrArg some (by kernel_rfl))
  t0 := Tryz.underlying0
  a0 := Tryz.isAgg0
  z0 := Tryz.sizeOf0
  v0 := Tryz.zeroValue0
  t3 := Tryz.underlying3
  a3 := Tryz.isAgg3
  z3 := Tryz.sizeOf3
  v3 := Tryz.zeroValue3
  t4 := Tryz.underlying4
  a4 := Tryz.isAgg4
  z4 := Tryz.sizeOf4
  v4 := Tryz.zeroValue4
  t20 := Tryz.underlying20
  a20 := Tryz.isAgg20
  z20 := Tryz.sizeOf20
  v20 := Tryz.zeroValue20
  t37 := Tryz.underlying78
  a37 := Tryz.isAgg78
  z37 := Tryz.sizeOf78
  v37 := Tryz.zeroValue78
  t75 := Tryz.underlying187
  a75 := Tryz.isAgg187
  z75 := Tryz.sizeOf187
  v75 := Tryz.zeroValue187
  g14 := by kernel_rfl
  t5 := Tryz.underlying5
  a5 := Tryz.isAgg5
  z5 := Tryz.sizeOf5
  v5 := Tryz.zeroValue5
  t9 := Tryz.underlying9
  a9 := Tryz.isAgg9
  z9 := Tryz.sizeOf9
  v9 := Tryz.zeroValue9
  t80 := Tryz.underlying98
  a80 := Tryz.isAgg98
  z80 := Tryz.sizeOf98
  v80 := Tryz.zeroValue98
  i0 := by kernel_rfl
  i3 := by kernel_rfl
  i4 := by kernel_rfl
  i5 := by kernel_rfl
  i9 := by kernel_rfl
  i20 := by kernel_rfl
  i37 := by kernel_rfl
  i75 := by kernel_rfl
  i80 := by kernel_rfl
  m14 := by kernel_rfl }
open Go.RowKit in
/-- bytes.growSlice: "growSlice grows b by n, preserving the original content of b.": OF A SLICE THAT LIES AT THE HEAD OF A ROW: a new row, number 'w.heap.size': it begins with b's l cells; its capacity has room for n more; whatever lay below is as it was. (LAID: no walk: one application.) -/
theorem Tryz.bytes_growSlice_row (g l c n : Nat) (cur : Array Value) (w : World) (hg : w.heap[g]? = some (.cells cur 5 (0, 0))) (hcs : cur.size = c) (hlc : l ≤ c) (hn : 1 ≤ n) (hlim : l + n ≤ 140737488355328) (hc2 : c ≤ 140737488355328) (h1 : ∀ v ∈ cur.toList.take l, v.oneCell' = true) :
    Calls Tryz.prog 315 #[.slice (some ⟨g, 0, none⟩) l c, .int .i64 n] w fun e w' => ∃ cap2 cells, e = .returned (.slice (some ⟨w.heap.size, 0, none⟩) l cap2) ∧ w'.heap[w.heap.size]? = some (.cells cells 5 (0, 0)) ∧
      cells.size = cap2 ∧ cells.toList.take l = cur.toList.take l ∧ l + n ≤ cap2 ∧ cap2 ≤ maxLen ∧ Below w.heap.size w w' := Any.bytes_growSlice_row Tryz.laysM290 g l c n cur w hg hcs hlc hn hlim hc2 h1
open Go.RowKit in
/-- .. OF THE NIL SLICE: a new row with room for n. (LAID: no walk: one application.) -/
theorem Tryz.bytes_growSlice_nil (n : Nat) (w : World) (hn : 1 ≤ n) (hlim : n ≤ 140737488355328) :
    Calls Tryz.prog 315 #[.slice none 0 0, .int .i64 n] w fun e w' => ∃ cap2 cells, e = .returned (.slice (some ⟨w.heap.size, 0, none⟩) 0 cap2) ∧ w'.heap[w.heap.size]? = some (.cells cells 5 (0, 0)) ∧
      cells.size = cap2 ∧ n ≤ cap2 ∧ cap2 ≤ maxLen ∧ Below w.heap.size w w' := Any.bytes_growSlice_nil Tryz.laysM290 n w hn hlim
def Tryz.laysM182_ren : Go.Shelf.Ren := ⟨fun | 182 => 67 | n => n, fun | 130 => 97 | 9 => 9 | 4 => 4 | 0 => 0 | 93 => 95 | 37 => 78 | 3 => 3 | 91 => 93 | 5 => 5 | n => n, fun | n => n⟩
theorem Tryz.laysM182 : Go.Proofs.LaysM.n182 Tryz.prog Tryz.laysM182_ren := {
  mixed := by kernel_rfl
  f182 := Tryz.func67.trans (congrArg some (by kernel_rfl))
  t0 := Tryz.underlying0
  a0 := Tryz.isAgg0
  z0 := Tryz.sizeOf0
  v0 := Tryz.zeroValue0
  t3 := Tryz.underlying3
  a3 := Tryz.isAgg3
  z3 := Tryz.sizeOf3
  v3 := Tryz.zeroValue3
  t4 := Tryz.underlying4
  a4 := Tryz.isAgg4
  z4 := Tryz.sizeOf4
  v4 := Tryz.zeroValue4
  t9 := Tryz.underlying9
  a9 := Tryz.isAgg9
  z9 := Tryz.sizeOf9
  v9 := Tryz.zeroValue9
  t37 := Tryz.underlying78
  a37 := Tryz.isAgg78
  z37 := Tryz.sizeOf78
  v37 := Tryz.zeroValue78
  t93 := Tryz.underlying95
  a93 := Tryz.isAgg95
  z93 := Tryz.sizeOf95
  v93 := Tryz.zeroValue95
  t130 := Tryz.underlying97
  a130 := Tryz.isAgg97
  z130 := Tryz.sizeOf97
  v130 := Tryz.zeroValue97
  t5 := Tryz.underlying5
  a5 := Tryz.isAgg5
  z5 := Tryz.sizeOf5
  v5 := Tryz.zeroValue5
  t91 := Tryz.underlying93
  a91 := Tryz.isAgg93
  z91 := Tryz.sizeOf93
  v91 := Tryz.zeroValue93
  i0 := by kernel_rfl
  i3 := by kernel_rfl
  i4 := by kernel_rfl
  i5 := by kernel_rfl
  i9 := by kernel_rfl
  i37 := by kernel_rfl
  i91 := by kernel_rfl
  i93 := by kernel_rfl
  i130 := by kernel_rfl }
open Go.RowKit in
/-- (*bytes.Buffer).String: "String returns the contents of the unread portion of the buffer as a string.": THE BYTES THAT WERE WRITTEN. The world is as it was but for the count of draws (the statement has two reads: its order is drawn). (LAID: no walk: one application.) -/
theorem Tryz.Buffer_String (B b : Nat) (l : List UInt8) (w : World) (h : Lib.IsBuffer 95 5 B b (Lib.byteCells l) w) :
    Calls Tryz.prog 67 #[.pointer (some ⟨b, 0, none⟩)] w fun e w' => e = .returned (.string ⟨l.toArray⟩) ∧ ∃ n, w' = w.drewN n := Any.Buffer_String Tryz.laysM182 B b l w h
def Tryz.lays217_ren : Go.Shelf.Ren := ⟨fun | 217 => 69 | 266 => 92 | n => n, fun | 9 => 9 | 5 => 5 | 3 => 3 | n => n, fun | n => n⟩
theorem Tryz.lays217 : Go.Proofs.Lays.n217 Tryz.prog Tryz.lays217_ren := {
  mixed := by kernel_rfl
  f217 := Tryz.func69.trans (congrArg some (by kernel_rfl))
  f266 := Tryz.func92.trans (congrArg some (by kernel_rfl))
  t3 := Tryz.underlying3
  a3 := Tryz.isAgg3
  z3 := Tryz.sizeOf3
  v3 := Tryz.zeroValue3
  t5 := Tryz.underlying5
  a5 := Tryz.isAgg5
  z5 := Tryz.sizeOf5
  v5 := Tryz.zeroValue5
  t9 := Tryz.underlying9
  a9 := Tryz.isAgg9
  z9 := Tryz.sizeOf9
  v9 := Tryz.zeroValue9 }
open Go.RowKit Go.Lib in
/-- internal/stringslite.IndexByte (what strings.IndexByte calls): IT RETURNS 'Lib.indexByte s c'; the world is as it was. (LAID: no walk: one application.) -/
theorem Tryz.stringslite_IndexByte (s : ByteArray) (c : Int) (w : World) :
    Calls Tryz.prog 69 #[.string s, .int .u8 c] w fun e w' => e = .returned (.int .i64 (Lib.indexByte s.data.toList c.toNat.toUInt8)) ∧ w' = w := Any.stringslite_IndexByte Tryz.lays217 s c w
def Tryz.laysM252_ren : Go.Shelf.Ren := ⟨fun | 252 => 312 | 181 => 314 | 184 => 304 | 251 => 311 | 290 => 315 | 324 => 317 | n => n, fun | 130 => 97 | 3 => 3 | 4 => 4 | 0 => 0 | 93 => 95 | 131 => 253 | 37 => 78 | 75 => 187 | 91 => 93 | 20 => 20 | 5 => 5 | 80 => 98 | 9 => 9 | n => n, fun | 14 => 9 | n => n⟩
theorem Tryz.laysM252 : Go.Proofs.LaysM.n252 Tryz.prog Tryz.laysM252_ren := {
  mixed := by kernel_rfl
  f181 := Tryz.func314.trans (congrArg some (by kernel_rfl))
  f184 := Tryz.func304.trans (congrArg some (by kernel_rfl))
  f251 := Tryz.func311.trans (congrArg some (by kernel_rfl))
  f252 := Tryz.func312.trans (congrArg some (by kernel_rfl))
  f290 := Tryz.func315.trans (congrArg some (by kernel_rfl))
  f324 := Tryz.func317.trans (congrArg some (by kernel_rfl))
  t0 := Tryz.underlying0
  a0 := Tryz.isAgg0
  z0 := Tryz.sizeOf0
  v0 := Tryz.zeroValue0
  t3 := Tryz.underlying3
  a3 := Tryz.isAgg3
  z3 := Tryz.sizeOf3
  v3 := Tryz.zeroValue3
  t4 := Tryz.underlying4
  a4 := Tryz.isAgg4
  z4 := Tryz.sizeOf4
  v4 := Tryz.zeroValue4
  t20 := Tryz.underlying20
  a20 := Tryz.isAgg20
  z20 := Tryz.sizeOf20
  v20 := Tryz.zeroValue20
  t37 := Tryz.underlying78
  a37 := Tryz.isAgg78
  z37 := Tryz.sizeOf78
  v37 := Tryz.zeroValue78
  t75 := Tryz.underlying187
  a75 := Tryz.isAgg187
  z75 := Tryz.sizeOf187
  v75 := Tryz.zeroValue187
  t91 := Tryz.underlying93
  a91 := Tryz.isAgg93
  z91 := Tryz.sizeOf93
  v91 := Tryz.zeroValue93
  t93 := Tryz.underlying95
  a93 := Tryz.isAgg95
  z93 := Tryz.sizeOf95
  v93 := Tryz.zeroValue95
  t130 := Tryz.underlying97
  a130 := Tryz.isAgg97
  z130 := Tryz.sizeOf97
  v130 := Tryz.zeroValue97
  t131 := Tryz.underlying253
  a131 := Tryz.isAgg253
  z131 := Tryz.sizeOf253
  v131 := Tryz.zeroValue253
  g14 := by kernel_rfl
  t5 := Tryz.underlying5
  a5 := Tryz.isAgg5
  z5 := Tryz.sizeOf5
  v5 := Tryz.zeroValue5
  t9 := Tryz.underlying9
  a9 := Tryz.isAgg9
  z9 := Tryz.sizeOf9
  v9 := Tryz.zeroValue9
  t80 := Tryz.underlying98
  a80 := Tryz.isAgg98
  z80 := Tryz.sizeOf98
  v80 := Tryz.zeroValue98
  i0 := by kernel_rfl
  i3 := by kernel_rfl
  i4 := by kernel_rfl
  i5 := by kernel_rfl
  i9 := by kernel_rfl
  i20 := by kernel_rfl
  i37 := by kernel_rfl
  i75 := by kernel_rfl
  i80 := by kernel_rfl
  i91 := by kernel_rfl
  i93 := by kernel_rfl
  i130 := by kernel_rfl
  i131 := by kernel_rfl
  m14 := by kernel_rfl }
open Go.RowKit in
/-- grow, WHERE THE BUFFER HOLDS A ROW, NO BYTE IN IT (behind a Reset), AND THE ROW HAS NO ROOM: growSlice. (THE TEXT OF 'Buffer_grow_row' WITH 0 FOR l, BY PROGRAM: the walk parts on 'm == 0' and writes 0 for l throughout the goal: facts that still say l then do not strike: so l is laid in ahead of the walk.) (LAID: no walk: one application.) -/
theorem Tryz.Buffer_grow_row0_kept (B b g cap n : Nat) (lr : Int) (cur : Array Value) (bs : List Value) (w : World) (hB : B ≤ b) (hBw : B ≤ w.heap.size) (hbk : w.heap[b]? = some (.cells #[.slice (some ⟨g, 0, none⟩) 0 cap, .int .i64 0, .int .i8 lr] 95 (0, 0))) (hl : bs.length = 0) (hBg : B ≤ g) (hg : w.heap[g]? = some (.cells cur 5 (0, 0))) (hlc : 0 ≤ cap) (hcm : cap ≤ maxLen) (hcs : cur.size = cap) (htake : cur.toList.take 0 = bs) (hgb : g ≠ b) (h1 : ∀ v ∈ bs, v.oneCell' = true) (hn : 1 ≤ n) (hroom : cap - 0 < n) (hlim : 0 + n ≤ 140737488355328) :
    Calls Tryz.prog 312 #[.pointer (some ⟨b, 0, none⟩), .int .i64 n] w fun e w' => e = .returned (.int .i64 0) ∧ ∃ xs, xs.length = n ∧ Lib.IsBuffer 95 5 B b (bs ++ xs) w' ∧ Below B w w' ∧ Lib.OthersKept 5 (some b) w w' := Any.Buffer_grow_row0_kept Tryz.laysM252 B b g cap n lr cur bs w hB hBw hbk hl hBg hg hlc hcm hcs htake hgb h1 hn hroom hlim
open Go.RowKit in
/-- grow, WHERE THE BUFFER HOLDS A ROW THAT HAS NO ROOM: growSlice. (LAID: no walk: one application.) -/
theorem Tryz.Buffer_grow_row_kept (B b g l cap n : Nat) (lr : Int) (cur : Array Value) (bs : List Value) (w : World) (hB : B ≤ b) (hBw : B ≤ w.heap.size) (hbk : w.heap[b]? = some (.cells #[.slice (some ⟨g, 0, none⟩) l cap, .int .i64 0, .int .i8 lr] 95 (0, 0))) (hl : bs.length = l) (hBg : B ≤ g) (hg : w.heap[g]? = some (.cells cur 5 (0, 0))) (hlc : l ≤ cap) (hcm : cap ≤ maxLen) (hcs : cur.size = cap) (htake : cur.toList.take l = bs) (hgb : g ≠ b) (h1 : ∀ v ∈ bs, v.oneCell' = true) (hn : 1 ≤ n) (hroom : cap - l < n) (hlim : l + n ≤ 140737488355328) :
    Calls Tryz.prog 312 #[.pointer (some ⟨b, 0, none⟩), .int .i64 n] w fun e w' => e = .returned (.int .i64 l) ∧ ∃ xs, xs.length = n ∧ Lib.IsBuffer 95 5 B b (bs ++ xs) w' ∧ Below B w w' ∧ Lib.OthersKept 5 (some b) w w' := Any.Buffer_grow_row_kept Tryz.laysM252 B b g l cap n lr cur bs w hB hBw hbk hl hBg hg hlc hcm hcs htake hgb h1 hn hroom hlim
open Go.RowKit in
/-- grow, 'buf' nil, n AT MOST 64: 'b.buf = make([]byte, n, smallBufferSize)'. (LAID: no walk: one application.) -/
theorem Tryz.Buffer_grow_nil_small_kept (B b n : Nat) (lr : Int) (w : World) (hB : B ≤ b) (hBw : B ≤ w.heap.size) (hbk : w.heap[b]? = some (.cells #[.slice none 0 0, .int .i64 0, .int .i8 lr] 95 (0, 0))) (hn : 1 ≤ n) (h64 : n ≤ 64) :
    Calls Tryz.prog 312 #[.pointer (some ⟨b, 0, none⟩), .int .i64 n] w fun e w' => e = .returned (.int .i64 0) ∧ ∃ xs, xs.length = n ∧ Lib.IsBuffer 95 5 B b xs w' ∧ Below B w w' ∧ Lib.OthersKept 5 (some b) w w' := Any.Buffer_grow_nil_small_kept Tryz.laysM252 B b n lr w hB hBw hbk hn h64
open Go.RowKit in
/-- grow, 'buf' nil, n ABOVE 64: growSlice of the nil slice. (LAID: no walk: one application.) -/
theorem Tryz.Buffer_grow_nil_big_kept (B b n : Nat) (lr : Int) (w : World) (hB : B ≤ b) (hBw : B ≤ w.heap.size) (hbk : w.heap[b]? = some (.cells #[.slice none 0 0, .int .i64 0, .int .i8 lr] 95 (0, 0))) (h64 : 64 < n) (hlim : n ≤ 140737488355328) :
    Calls Tryz.prog 312 #[.pointer (some ⟨b, 0, none⟩), .int .i64 n] w fun e w' => e = .returned (.int .i64 0) ∧ ∃ xs, xs.length = n ∧ Lib.IsBuffer 95 5 B b xs w' ∧ Below B w w' ∧ Lib.OthersKept 5 (some b) w w' := Any.Buffer_grow_nil_big_kept Tryz.laysM252 B b n lr w hB hBw hbk h64 hlim
open Go.RowKit in
/-- tryGrowByReslice: EITHER there is room: the place to write at is the old length, and the buffer holds the old bytes and n more of whatever lay there; OR there is none: nothing turns, and 'Lib.NoRoom' is what grow asks. (LAID: no walk: one application.) -/
theorem Tryz.Buffer_tryGrow_kept (B b n : Nat) (bs : List Value) (w : World) (h : Lib.IsBuffer 95 5 B b bs w) :
    Calls Tryz.prog 311 #[.pointer (some ⟨b, 0, none⟩), .int .i64 n] w fun e w' =>
      (e = .returned (.tuple #[.int .i64 bs.length, .bool true]) ∧ ∃ xs, xs.length = n ∧ Lib.IsBuffer 95 5 B b (bs ++ xs) w' ∧ Below B w w' ∧ Lib.OthersKept 5 (some b) w w') ∨
      (e = .returned (.tuple #[.int .i64 0, .bool false]) ∧ w' = w ∧ Lib.NoRoom b n w) := Any.Buffer_tryGrow_kept Tryz.laysM251 B b n bs w h
open Go.RowKit in
/-- (*bytes.Buffer).grow: "grow grows the buffer to guarantee space for n more bytes. It returns the index where bytes should be written.": WHERE THERE IS NO ROOM; UNDER Go's OWN LIMIT (the new length takes at most 2^47 bytes): the old length; the buffer holds the old bytes and n more of whatever. (LAID: no walk: one application.) -/
theorem Tryz.Buffer_grow_kept (B b n : Nat) (bs : List Value) (w : World) (h : Lib.IsBuffer 95 5 B b bs w) (hnr : Lib.NoRoom b n w) (hBw : B ≤ w.heap.size) (h1 : ∀ v ∈ bs, v.oneCell' = true) (hlim : bs.length + n ≤ 140737488355328) :
    Calls Tryz.prog 312 #[.pointer (some ⟨b, 0, none⟩), .int .i64 n] w fun e w' => e = .returned (.int .i64 bs.length) ∧ ∃ xs, xs.length = n ∧ Lib.IsBuffer 95 5 B b (bs ++ xs) w' ∧ Below B w w' ∧ Lib.OthersKept 5 (some b) w w' := Any.Buffer_grow_kept Tryz.laysM252 B b n bs w h hnr hBw h1 hlim
def Tryz.laysM179_ren : Go.Shelf.Ren := ⟨fun | 179 => 316 | 251 => 311 | 252 => 312 | 181 => 314 | 184 => 304 | 290 => 315 | 324 => 317 | n => n, fun | 130 => 97 | 5 => 5 | 75 => 187 | 0 => 0 | 93 => 95 | 91 => 93 | 3 => 3 | 131 => 253 | 4 => 4 | 37 => 78 | 20 => 20 | 80 => 98 | 9 => 9 | n => n, fun | 14 => 9 | n => n⟩
theorem Tryz.laysM179 : Go.Proofs.LaysM.n179 Tryz.prog Tryz.laysM179_ren := {
  mixed := by kernel_rfl
  f179 := Tryz.func316.trans (congrArg some (by kernel_rfl))
  f181 := Tryz.func314.trans (congrArg some (by kernel_rfl))
  f184 := Tryz.func304.trans (congrArg some (by kernel_rfl))
  f251 := Tryz.func311.trans (congrArg some (by kernel_rfl))
  f252 := Tryz.func312.trans (congrArg some (by kernel_rfl))
  f290 := Tryz.func315.trans (congrArg some (by kernel_rfl))
  f324 := Tryz.func317.trans (congrArg some (by kernel_rfl))
  t0 := Tryz.underlying0
  a0 := Tryz.isAgg0
  z0 := Tryz.sizeOf0
  v0 := Tryz.zeroValue0
  t3 := Tryz.underlying3
  a3 := Tryz.isAgg3
  z3 := Tryz.sizeOf3
  v3 := Tryz.zeroValue3
  t4 := Tryz.underlying4
  a4 := Tryz.isAgg4
  z4 := Tryz.sizeOf4
  v4 := Tryz.zeroValue4
  t5 := Tryz.underlying5
  a5 := Tryz.isAgg5
  z5 := Tryz.sizeOf5
  v5 := Tryz.zeroValue5
  t20 := Tryz.underlying20
  a20 := Tryz.isAgg20
  z20 := Tryz.sizeOf20
  v20 := Tryz.zeroValue20
  t37 := Tryz.underlying78
  a37 := Tryz.isAgg78
  z37 := Tryz.sizeOf78
  v37 := Tryz.zeroValue78
  t75 := Tryz.underlying187
  a75 := Tryz.isAgg187
  z75 := Tryz.sizeOf187
  v75 := Tryz.zeroValue187
  t91 := Tryz.underlying93
  a91 := Tryz.isAgg93
  z91 := Tryz.sizeOf93
  v91 := Tryz.zeroValue93
  t93 := Tryz.underlying95
  a93 := Tryz.isAgg95
  z93 := Tryz.sizeOf95
  v93 := Tryz.zeroValue95
  t130 := Tryz.underlying97
  a130 := Tryz.isAgg97
  z130 := Tryz.sizeOf97
  v130 := Tryz.zeroValue97
  t131 := Tryz.underlying253
  a131 := Tryz.isAgg253
  z131 := Tryz.sizeOf253
  v131 := Tryz.zeroValue253
  g14 := by kernel_rfl
  t9 := Tryz.underlying9
  a9 := Tryz.isAgg9
  z9 := Tryz.sizeOf9
  v9 := Tryz.zeroValue9
  t80 := Tryz.underlying98
  a80 := Tryz.isAgg98
  z80 := Tryz.sizeOf98
  v80 := Tryz.zeroValue98
  i0 := by kernel_rfl
  i3 := by kernel_rfl
  i4 := by kernel_rfl
  i5 := by kernel_rfl
  i9 := by kernel_rfl
  i20 := by kernel_rfl
  i37 := by kernel_rfl
  i75 := by kernel_rfl
  i80 := by kernel_rfl
  i91 := by kernel_rfl
  i93 := by kernel_rfl
  i130 := by kernel_rfl
  i131 := by kernel_rfl
  m14 := by kernel_rfl }
open Go.RowKit in
/-- (*bytes.Buffer).WriteByte: "WriteByte appends the byte c to the buffer, growing the buffer as needed. The returned error is always nil". (LAID: no walk: one application.) -/
theorem Tryz.Buffer_WriteByte_kept (B b : Nat) (bs : List Value) (c : Int) (w : World) (h : Lib.IsBuffer 95 5 B b bs w) (hBw : B ≤ w.heap.size) (h1 : ∀ v ∈ bs, v.oneCell' = true) (hlim : bs.length + 1 ≤ 140737488355328) :
    Calls Tryz.prog 316 #[.pointer (some ⟨b, 0, none⟩), .int .u8 c] w fun e w' => e = .returned .nilIface ∧ Lib.IsBuffer 95 5 B b (bs ++ [.int .u8 c]) w' ∧ Below B w w' ∧ Lib.OthersKept 5 (some b) w w' := Any.Buffer_WriteByte_kept Tryz.laysM179 B b bs c w h hBw h1 hlim
def Tryz.laysM178_ren : Go.Shelf.Ren := ⟨fun | 178 => 307 | 251 => 311 | 252 => 312 | 181 => 314 | 184 => 304 | 290 => 315 | 324 => 317 | n => n, fun | 130 => 97 | 9 => 9 | 3 => 3 | 75 => 187 | 0 => 0 | 93 => 95 | 91 => 93 | 131 => 253 | 4 => 4 | 37 => 78 | 20 => 20 | 80 => 98 | 5 => 5 | n => n, fun | 14 => 9 | n => n⟩
theorem Tryz.laysM178 : Go.Proofs.LaysM.n178 Tryz.prog Tryz.laysM178_ren := {
  mixed := by kernel_rfl
  f178 := Tryz.func307.trans (congrArg some (by kernel_rfl))
  f181 := Tryz.func314.trans (congrArg some (by kernel_rfl))
  f184 := Tryz.func304.trans (congrArg some (by kernel_rfl))
  f251 := Tryz.func311.trans (congrArg some (by kernel_rfl))
  f252 := Tryz.func312.trans (congrArg some (by kernel_rfl))
  f290 := Tryz.func315.trans (congrArg some (by kernel_rfl))
  f324 := Tryz.func317.trans (congrArg some (by kernel_rfl))
  t0 := Tryz.underlying0
  a0 := Tryz.isAgg0
  z0 := Tryz.sizeOf0
  v0 := Tryz.zeroValue0
  t3 := Tryz.underlying3
  a3 := Tryz.isAgg3
  z3 := Tryz.sizeOf3
  v3 := Tryz.zeroValue3
  t4 := Tryz.underlying4
  a4 := Tryz.isAgg4
  z4 := Tryz.sizeOf4
  v4 := Tryz.zeroValue4
  t9 := Tryz.underlying9
  a9 := Tryz.isAgg9
  z9 := Tryz.sizeOf9
  v9 := Tryz.zeroValue9
  t20 := Tryz.underlying20
  a20 := Tryz.isAgg20
  z20 := Tryz.sizeOf20
  v20 := Tryz.zeroValue20
  t37 := Tryz.underlying78
  a37 := Tryz.isAgg78
  z37 := Tryz.sizeOf78
  v37 := Tryz.zeroValue78
  t75 := Tryz.underlying187
  a75 := Tryz.isAgg187
  z75 := Tryz.sizeOf187
  v75 := Tryz.zeroValue187
  t91 := Tryz.underlying93
  a91 := Tryz.isAgg93
  z91 := Tryz.sizeOf93
  v91 := Tryz.zeroValue93
  t93 := Tryz.underlying95
  a93 := Tryz.isAgg95
  z93 := Tryz.sizeOf95
  v93 := Tryz.zeroValue95
  t130 := Tryz.underlying97
  a130 := Tryz.isAgg97
  z130 := Tryz.sizeOf97
  v130 := Tryz.zeroValue97
  t131 := Tryz.underlying253
  a131 := Tryz.isAgg253
  z131 := Tryz.sizeOf253
  v131 := Tryz.zeroValue253
  g14 := by kernel_rfl
  t5 := Tryz.underlying5
  a5 := Tryz.isAgg5
  z5 := Tryz.sizeOf5
  v5 := Tryz.zeroValue5
  t80 := Tryz.underlying98
  a80 := Tryz.isAgg98
  z80 := Tryz.sizeOf98
  v80 := Tryz.zeroValue98
  i0 := by kernel_rfl
  i3 := by kernel_rfl
  i4 := by kernel_rfl
  i5 := by kernel_rfl
  i9 := by kernel_rfl
  i20 := by kernel_rfl
  i37 := by kernel_rfl
  i75 := by kernel_rfl
  i80 := by kernel_rfl
  i91 := by kernel_rfl
  i93 := by kernel_rfl
  i130 := by kernel_rfl
  i131 := by kernel_rfl
  m14 := by kernel_rfl }
open Go.RowKit in
/-- (*bytes.Buffer).WriteString: "WriteString appends the contents of s to the buffer, growing the buffer as needed. The return value n is the length of s; err is always nil." (LAID: no walk: one application.) -/
theorem Tryz.Buffer_WriteString_kept (B b : Nat) (bs : List Value) (s : ByteArray) (w : World) (h : Lib.IsBuffer 95 5 B b bs w) (hBw : B ≤ w.heap.size) (h1 : ∀ v ∈ bs, v.oneCell' = true) (hlim : bs.length + s.size ≤ 140737488355328) :
    Calls Tryz.prog 307 #[.pointer (some ⟨b, 0, none⟩), .string s] w fun e w' => e = .returned (.tuple #[.int .i64 s.size, .nilIface]) ∧ Lib.IsBuffer 95 5 B b (bs ++ Lib.byteCells s.data.toList) w' ∧ Below B w w' ∧ Lib.OthersKept 5 (some b) w w' := Any.Buffer_WriteString_kept Tryz.laysM178 B b bs s w h hBw h1 hlim
def Tryz.laysM184_ren : Go.Shelf.Ren := ⟨fun | 184 => 304 | n => n, fun | 130 => 97 | 0 => 0 | 93 => 95 | 37 => 78 | 3 => 3 | 91 => 93 | 5 => 5 | n => n, fun | n => n⟩
theorem Tryz.laysM184 : Go.Proofs.LaysM.n184 Tryz.prog Tryz.laysM184_ren := {
  mixed := by kernel_rfl
  f184 := Tryz.func304.trans (congrArg some (by kernel_rfl))
  t0 := Tryz.underlying0
  a0 := Tryz.isAgg0
  z0 := Tryz.sizeOf0
  v0 := Tryz.zeroValue0
  t3 := Tryz.underlying3
  a3 := Tryz.isAgg3
  z3 := Tryz.sizeOf3
  v3 := Tryz.zeroValue3
  t37 := Tryz.underlying78
  a37 := Tryz.isAgg78
  z37 := Tryz.sizeOf78
  v37 := Tryz.zeroValue78
  t91 := Tryz.underlying93
  a91 := Tryz.isAgg93
  z91 := Tryz.sizeOf93
  v91 := Tryz.zeroValue93
  t93 := Tryz.underlying95
  a93 := Tryz.isAgg95
  z93 := Tryz.sizeOf95
  v93 := Tryz.zeroValue95
  t130 := Tryz.underlying97
  a130 := Tryz.isAgg97
  z130 := Tryz.sizeOf97
  v130 := Tryz.zeroValue97
  t5 := Tryz.underlying5
  a5 := Tryz.isAgg5
  z5 := Tryz.sizeOf5
  v5 := Tryz.zeroValue5
  i0 := by kernel_rfl
  i3 := by kernel_rfl
  i5 := by kernel_rfl
  i37 := by kernel_rfl
  i91 := by kernel_rfl
  i93 := by kernel_rfl
  i130 := by kernel_rfl }
open Go.RowKit in
/-- (*bytes.Buffer).Reset: "Reset resets the buffer to be empty, but it retains the underlying storage for use by future writes." (LAID: no walk: one application.) -/
theorem Tryz.Buffer_Reset_kept (B b : Nat) (bs : List Value) (w : World) (h : Lib.IsBuffer 95 5 B b bs w) :
    Calls Tryz.prog 304 #[.pointer (some ⟨b, 0, none⟩)] w fun e w' => e = .returned (.tuple #[]) ∧ Lib.IsBuffer 95 5 B b [] w' ∧ Below B w w' ∧ Lib.OthersKept 5 (some b) w w' := Any.Buffer_Reset_kept Tryz.laysM184 B b bs w h
open Go.RowKit in
theorem Tryz.Buffer_WriteByte_k (B b : Nat) (bs : List Value) (c : Int) (w : World) (h : Lib.IsBuffer 95 5 B b bs w) (hBw : B ≤ w.heap.size) (h1 : ∀ v ∈ bs, v.oneCell' = true) (hlim : bs.length + 1 ≤ 140737488355328) :
    Calls Tryz.prog 316 #[.pointer (some ⟨b, 0, none⟩), .int .u8 c] w fun e w' => e = .returned .nilIface ∧ Lib.IsBuffer 95 5 B b (bs ++ [.int .u8 c]) w' ∧ Below B w w' ∧ Lib.OthersKept 5 (some b) w w' := Any.Buffer_WriteByte_k Tryz.laysM179 B b bs c w h hBw h1 hlim
open Go.RowKit in
theorem Tryz.Buffer_WriteString_k (B b : Nat) (bs : List Value) (s : ByteArray) (w : World) (h : Lib.IsBuffer 95 5 B b bs w) (hBw : B ≤ w.heap.size) (h1 : ∀ v ∈ bs, v.oneCell' = true) (hlim : bs.length + s.size ≤ 140737488355328) :
    Calls Tryz.prog 307 #[.pointer (some ⟨b, 0, none⟩), .string s] w fun e w' => e = .returned (.tuple #[.int .i64 s.size, .nilIface]) ∧ Lib.IsBuffer 95 5 B b (bs ++ Lib.byteCells s.data.toList) w' ∧ Below B w w' ∧ Lib.OthersKept 5 (some b) w w' := Any.Buffer_WriteString_k Tryz.laysM178 B b bs s w h hBw h1 hlim
open Go.RowKit in
theorem Tryz.Buffer_Reset_k (B b : Nat) (bs : List Value) (w : World) (h : Lib.IsBuffer 95 5 B b bs w) :
    Calls Tryz.prog 304 #[.pointer (some ⟨b, 0, none⟩)] w fun e w' => e = .returned (.tuple #[]) ∧ Lib.IsBuffer 95 5 B b [] w' ∧ Below B w w' ∧ Lib.OthersKept 5 (some b) w w' := Any.Buffer_Reset_k Tryz.laysM184 B b bs w h
def Tryz.lays264_ren : Go.Shelf.Ren := ⟨fun | 264 => 242 | n => n, fun | 53 => 257 | 46 => 182 | n => n, fun | n => n⟩
theorem Tryz.lays264 : Go.Proofs.Lays.n264 Tryz.prog Tryz.lays264_ren := {
  mixed := by kernel_rfl
  f264 := Tryz.func242.trans (congrArg some (by kernel_rfl))
  t46 := Tryz.underlying182
  a46 := Tryz.isAgg182
  z46 := Tryz.sizeOf182
  v46 := Tryz.zeroValue182
  t53 := Tryz.underlying257
  a53 := Tryz.isAgg257
  z53 := Tryz.sizeOf257
  v53 := Tryz.zeroValue257 }
open Go.RowKit Go.Lib in
theorem Tryz.bits_Mul64 (x y : Nat) (hx : x < 18446744073709551616) (hy : y < 18446744073709551616) (w : World) :
    Calls Tryz.prog 242 #[.int .u64 x, .int .u64 y] w fun e w' => e = .returned (.tuple #[.int .u64 ((x * y / 18446744073709551616 : Nat) : Int), .int .u64 ((x * y % 18446744073709551616 : Nat) : Int)]) ∧ w' = w := Any.bits_Mul64 Tryz.lays264 x y hx hy w
def Tryz.lays212_ren : Go.Shelf.Ren := ⟨fun | 212 => 199 | 263 => 241 | 264 => 242 | n => n, fun | 46 => 182 | 51 => 45 | 146 => 363 | 53 => 257 | 148 => 365 | n => n, fun | n => n⟩
theorem Tryz.lays212 : Go.Proofs.Lays.n212 Tryz.prog Tryz.lays212_ren := {
  mixed := by kernel_rfl
  f212 := Tryz.func199.trans (congrArg some (by kernel_rfl))
  f263 := Tryz.func241.trans (congrArg some (by kernel_rfl))
  f264 := Tryz.func242.trans (congrArg some (by kernel_rfl))
  t46 := Tryz.underlying182
  a46 := Tryz.isAgg182
  z46 := Tryz.sizeOf182
  v46 := Tryz.zeroValue182
  t51 := Tryz.underlying45
  a51 := Tryz.isAgg45
  z51 := Tryz.sizeOf45
  v51 := Tryz.zeroValue45
  t53 := Tryz.underlying257
  a53 := Tryz.isAgg257
  z53 := Tryz.sizeOf257
  v53 := Tryz.zeroValue257
  t146 := Tryz.underlying363
  a146 := Tryz.isAgg363
  z146 := Tryz.sizeOf363
  v146 := Tryz.zeroValue363
  t148 := Tryz.underlying365
  a148 := Tryz.isAgg365
  z148 := Tryz.sizeOf365
  v148 := Tryz.zeroValue365 }
open Go.RowKit Go.Lib in
/-- math/bits.Mul: "Mul returns the full-width product of x and y": on a machine of 64 bits: Mul64's. (LAID: no walk: one application.) -/
theorem Tryz.bits_Mul (x y : Nat) (hx : x < 18446744073709551616) (hy : y < 18446744073709551616) (w : World) :
    Calls Tryz.prog 199 #[.int .u64 x, .int .u64 y] w fun e w' => e = .returned (.tuple #[.int .u64 ((x * y / 18446744073709551616 : Nat) : Int), .int .u64 ((x * y % 18446744073709551616 : Nat) : Int)]) ∧ w' = w := Any.bits_Mul Tryz.lays212 x y hx hy w
def Tryz.lays260_ren : Go.Shelf.Ren := ⟨fun | 260 => 196 | n => n, fun | 9 => 9 | 21 => 21 | 3 => 3 | 4 => 4 | 5 => 5 | 119 => 357 | 0 => 0 | 46 => 182 | 139 => 360 | 138 => 359 | n => n, fun | 3 => 2 | 4 => 3 | n => n⟩
theorem Tryz.lays260 : Go.Proofs.Lays.n260 Tryz.prog Tryz.lays260_ren := {
  mixed := by kernel_rfl
  f260 := Tryz.func196.trans (congrArg some (by kernel_rfl))
  t0 := Tryz.underlying0
  a0 := Tryz.isAgg0
  z0 := Tryz.sizeOf0
  v0 := Tryz.zeroValue0
  t3 := Tryz.underlying3
  a3 := Tryz.isAgg3
  z3 := Tryz.sizeOf3
  v3 := Tryz.zeroValue3
  t4 := Tryz.underlying4
  a4 := Tryz.isAgg4
  z4 := Tryz.sizeOf4
  v4 := Tryz.zeroValue4
  t5 := Tryz.underlying5
  a5 := Tryz.isAgg5
  z5 := Tryz.sizeOf5
  v5 := Tryz.zeroValue5
  t9 := Tryz.underlying9
  a9 := Tryz.isAgg9
  z9 := Tryz.sizeOf9
  v9 := Tryz.zeroValue9
  t21 := Tryz.underlying21
  a21 := Tryz.isAgg21
  z21 := Tryz.sizeOf21
  v21 := Tryz.zeroValue21
  t46 := Tryz.underlying182
  a46 := Tryz.isAgg182
  z46 := Tryz.sizeOf182
  v46 := Tryz.zeroValue182
  t119 := Tryz.underlying357
  a119 := Tryz.isAgg357
  z119 := Tryz.sizeOf357
  t138 := Tryz.underlying359
  a138 := Tryz.isAgg359
  z138 := Tryz.sizeOf359
  v138 := Tryz.zeroValue359
  t139 := Tryz.underlying360
  a139 := Tryz.isAgg360
  z139 := Tryz.sizeOf360
  v139 := Tryz.zeroValue360
  g3 := by kernel_rfl
  g4 := by kernel_rfl }
open Go.RowKit Go.Lib in
theorem Tryz.utf8_decodeRuneInStringSlow (s : ByteArray) (w : World) (hT : Lib.Utf8Tabs 2 3 w) :
    Calls Tryz.prog 196 #[.string s] w fun e w' => e = .returned (.tuple #[.int .i32 (Lib.decodeGo s).1, .int .i64 (Lib.decodeGo s).2]) ∧ Below w.heap.size w w' := Any.utf8_decodeRuneInStringSlow Tryz.lays260 s w hT
end Go.Proofs

/- zzPairs.WriteString of the HTML escaper's table. -/
namespace Go.Proofs.YtmmopoofheblbaaGreatDoor
open Go Go.RowKit Go.Proofs

def escN (s : ByteArray) (i : Nat) : List UInt8 := (s.data.toList.take i).flatMap escB

theorem blk_others {w w' : World} {k b T : Nat} {cs : Array Value} (h : Blk w k cs T) (ho : Lib.OthersKept 5 (some b) w w') (hk : k ≠ b) (hT : T ≠ 5) : Blk w' k cs T :=
  ho k _ h (fun e => hk (Option.some.inj e)) (fun c fz e => by cases e; exact hT rfl)

/-- The buffer, and what a writer leaves. -/
structure Wrote (w w' : World) (B b : Nat) (l : List UInt8) : Prop where
  buf : Lib.IsBuffer 95 5 B b (Lib.byteCells l) w'
  below : Below B w w'
  others : Lib.OthersKept 5 (some b) w w'

theorem Wrote.trans {a c d : World} {B b : Nat} {l m : List UInt8} (h : Wrote a c B b l) (k : Wrote c d B b m) : Wrote a d B b m := ⟨k.buf, h.below.trans k.below, h.others.trans k.others⟩

theorem write_string (B b : Nat) (l : List UInt8) (s : ByteArray) (w : World) (h : Lib.IsBuffer 95 5 B b (Lib.byteCells l) w) (hB : B ≤ w.heap.size) (hl : l.length ≤ 100000000) (hs : s.size ≤ 100000000) :
    Calls Tryz.prog 307 #[.pointer (some ⟨b, 0, none⟩), .string s] w fun e w' => e = .returned (.tuple #[.int .i64 s.size, .nilIface]) ∧ Wrote w w' B b (l ++ s.data.toList) := by
  have hlen : (Lib.byteCells l).length = l.length := by simp [Lib.byteCells]
  refine (Tryz.Buffer_WriteString_k B b _ s w h hB (Lib.byteCells_one _) (by omega)).mono ?_
  rintro e w' ⟨h1, h2, h3, h4⟩
  exact ⟨h1, by rw [Lib.byteCells_append]; exact h2, h3, h4⟩

theorem write_byte (B b : Nat) (l : List UInt8) (c : UInt8) (w : World) (h : Lib.IsBuffer 95 5 B b (Lib.byteCells l) w) (hB : B ≤ w.heap.size) (hl : l.length ≤ 100000000) :
    Calls Tryz.prog 316 #[.pointer (some ⟨b, 0, none⟩), .int .u8 c.toNat] w fun e w' => e = .returned .nilIface ∧ Wrote w w' B b (l ++ [c]) := by
  have hlen : (Lib.byteCells l).length = l.length := by simp [Lib.byteCells]
  refine (Tryz.Buffer_WriteByte_k B b _ _ w h hB (Lib.byteCells_one _) (by omega)).mono ?_
  rintro e w' ⟨h1, h2, h3, h4⟩
  exact ⟨h1, by simpa [Lib.byteCells] using h2, h3, h4⟩

theorem Wrote.drewN {w w1 : World} {B b : Nat} {l : List UInt8} (h : Wrote w w1 B b l) (n : Nat) : Wrote w (w1.drewN n) B b l :=
  ⟨h.buf, ⟨h.below.os, h.below.tape, h.below.output, h.below.size, h.below.block⟩, h.others⟩

theorem escN_succ (s : ByteArray) (i : Nat) (h : i < s.size) : escN s (i + 1) = escN s i ++ escB s[i] := by
  unfold escN
  have h' : i < s.data.toList.length := by simpa using h
  rw [List.take_succ_eq_append_getElem h', List.flatMap_append]
  simp
  rfl

theorem escN_len (s : ByteArray) : ∀ i, i ≤ s.size → (escN s i).length ≤ 6 * i
  | 0, _ => by simp [escN]
  | i + 1, h => by
    have h1 := escN_len s i (by omega)
    rw [escN_succ s i (by omega), List.length_append]
    have : (escB (s[i]'(by omega))).length ≤ 6 := by
      unfold escB
      repeat' split
      all_goals simp
    omega

theorem escN_bound {l : List UInt8} {s : ByteArray} {i : Nat} (hl : l.length ≤ 10000000) (hi : i ≤ s.size) (hs : s.size ≤ 1000000) : (l ++ escN s i).length ≤ 100000000 := by
  have := escN_len s i hi
  rw [List.length_append]
  omega

theorem ne_byte {c : UInt8} {k : Nat} (h : c ≠ UInt8.ofNat k) : ((c.toNat : Int) == ((UInt8.ofNat k).toNat : Int)) = false :=
  beq_eq_false_iff_ne.2 (fun he => h (UInt8.toNat_inj.1 (by omega)))

set_option maxRecDepth 100000 in
set_option maxHeartbeats 8000000 in
theorem esc_write (B b K : Nat) (l : List UInt8) (s : ByteArray) (w : World) (h : Lib.IsBuffer 95 5 B b (Lib.byteCells l) w) (hB : B ≤ w.heap.size) (hl : l.length ≤ 10000000) (hs : s.size ≤ 1000000) (hK : Blk w K escCells 9) (hKb : K ≠ b) :
    Calls Tryz.prog 313 #[.slice (some ⟨K, 0, none⟩) 8 8, .pointer (some ⟨b, 0, none⟩), .string s] w fun e w' => e = .returned (.tuple #[]) ∧ Wrote w w' B b (l ++ escN s s.size) := by
  go_enter Tryz.func313, Tryz.ntmps313
  go_wp2_with fail
  go_step3
  go_wp2_with fail
  go_step3
  go_wp2_with fail
  go_loopg [6] s.size (fun m v6 wr => ∃ i : Nat, v6 = .int .i64 i ∧ m = s.size - i ∧ i ≤ s.size ∧ Wrote w wr B b (l ++ escN s i))
  case atStart => exact ⟨0, rfl, rfl, Nat.zero_le _, by simpa [escN] using h, Below.refl _ _, Lib.OthersKept.refl _ _ _⟩
  case round =>
    obtain ⟨i, rfl, rfl, hi, hW⟩ := hrel
    have hK1 := blk_others hK hW.others hKb (by decide)
    have HW := Lib.hid hW
    clear hW
    by_cases hlt : i < s.size
    · have w1 : (i : Int) < s.size := by omega
      have w2 : (0 : Int) ≤ i := by omega
      have w3 : IntKind.i64.wrap ((i : Int) + 1) = (i : Int) + 1 := IntWalk.i64_in _ (by omega)
      go_wp2_with fail
      go_loopg [7] 4 (fun m v7 wx => (Wrote w wx B b (l ++ escN s i) ∧ Blk wx K escCells 9) ∧ ((m = 4 ∧ v7 = .int .i64 0) ∨ (m = 3 ∧ v7 = .int .i64 2 ∧ s[i] ≠ 34) ∨ (m = 2 ∧ v7 = .int .i64 4 ∧ s[i] ≠ 34 ∧ s[i] ≠ 38) ∨ (m = 1 ∧ v7 = .int .i64 6 ∧ s[i] ≠ 34 ∧ s[i] ≠ 38 ∧ s[i] ≠ 60) ∨ (m = 0 ∧ v7 = .int .i64 8 ∧ s[i] ≠ 34 ∧ s[i] ≠ 38 ∧ s[i] ≠ 60 ∧ s[i] ≠ 62)))
      case atStart => exact ⟨⟨HW.out, hK1⟩, Or.inl ⟨rfl, rfl⟩⟩
      case round =>
        clear HW hK1
        obtain ⟨⟨hW2, hK2⟩, hr⟩ := hrel
        have HW := Lib.hid hW2
        clear hW2
        have k0 : wr.cell? ⟨K, 0, none⟩ = some (.string ⟨#[34]⟩) := hK2.cell 0
        have k1 : wr.cell? ⟨K, 1, none⟩ = some (.string ⟨#[38, 113, 117, 111, 116, 59]⟩) := hK2.cell 1
        have k2 : wr.cell? ⟨K, 2, none⟩ = some (.string ⟨#[38]⟩) := hK2.cell 2
        have k3 : wr.cell? ⟨K, 3, none⟩ = some (.string ⟨#[38, 97, 109, 112, 59]⟩) := hK2.cell 3
        have k4 : wr.cell? ⟨K, 4, none⟩ = some (.string ⟨#[60]⟩) := hK2.cell 4
        have k5 : wr.cell? ⟨K, 5, none⟩ = some (.string ⟨#[38, 108, 116, 59]⟩) := hK2.cell 5
        have k6 : wr.cell? ⟨K, 6, none⟩ = some (.string ⟨#[62]⟩) := hK2.cell 6
        have k7 : wr.cell? ⟨K, 7, none⟩ = some (.string ⟨#[38, 103, 116, 59]⟩) := hK2.cell 7
        rcases hr with ⟨rfl, rfl⟩ | ⟨rfl, rfl, n1⟩ | ⟨rfl, rfl, n1, n2⟩ | ⟨rfl, rfl, n1, n2, n3⟩ | ⟨rfl, rfl, n1, n2, n3, n4⟩
        · have z : (((⟨#[34]⟩ : ByteArray)[0]'(by decide)).toNat : Int) = 34 := rfl
          by_cases hc : s[i] = 34
          · have hcb : ((s[i].toNat : Int) == 34) = true := by rw [hc]; rfl
            have hesc : escN s (i + 1) = escN s i ++ (#[38, 113, 117, 111, 116, 59] : Array UInt8).toList := by rw [escN_succ s i hlt, hc]; rfl
            have Hc := Lib.hid hesc
            clear hc hesc
            go_wp2_with fail
            go_quiet (fail)
            go_wp2_with fail
            refine (write_string B b _ ⟨#[38, 113, 117, 111, 116, 59]⟩ _ (HW.out.drewN nq).buf (Nat.le_trans hB (HW.out.drewN nq).below.size) (escN_bound hl hi hs) (by decide)).mono ?_
            rintro e w5 ⟨rfl, hW5⟩
            go_wp2_with fail
            go_roundg (s.size - (i + 1))
            case measure => omega
            case rel => exact ⟨i + 1, by simp, rfl, by omega, by rw [Hc.out, ← List.append_assoc]; exact (HW.out.drewN nq).trans hW5⟩
          · have hcb : ((s[i].toNat : Int) == 34) = false := ne_byte hc
            have Hc := Lib.hid hc
            clear hc
            go_wp2_with fail
            go_quiet (fail)
            go_wp2_with fail
            go_roundg 3
            case measure => omega
            case rel => exact ⟨⟨HW.out.drewN nq, hK2.drewN nq⟩, Or.inr (Or.inl ⟨rfl, rfl, Hc.out⟩)⟩
        · have Hn1 := Lib.hid n1
          clear n1
          have z : (((⟨#[38]⟩ : ByteArray)[0]'(by decide)).toNat : Int) = 38 := rfl
          by_cases hc : s[i] = 38
          · have hcb : ((s[i].toNat : Int) == 38) = true := by rw [hc]; rfl
            have hesc : escN s (i + 1) = escN s i ++ (#[38, 97, 109, 112, 59] : Array UInt8).toList := by rw [escN_succ s i hlt, hc]; rfl
            have Hc := Lib.hid hesc
            clear hc hesc
            go_wp2_with fail
            go_quiet (fail)
            go_wp2_with fail
            refine (write_string B b _ ⟨#[38, 97, 109, 112, 59]⟩ _ (HW.out.drewN nq).buf (Nat.le_trans hB (HW.out.drewN nq).below.size) (escN_bound hl hi hs) (by decide)).mono ?_
            rintro e w5 ⟨rfl, hW5⟩
            go_wp2_with fail
            go_roundg (s.size - (i + 1))
            case measure => omega
            case rel => exact ⟨i + 1, by simp, rfl, by omega, by rw [Hc.out, ← List.append_assoc]; exact (HW.out.drewN nq).trans hW5⟩
          · have hcb : ((s[i].toNat : Int) == 38) = false := ne_byte hc
            have Hc := Lib.hid hc
            clear hc
            go_wp2_with fail
            go_quiet (fail)
            go_wp2_with fail
            go_roundg 2
            case measure => omega
            case rel => exact ⟨⟨HW.out.drewN nq, hK2.drewN nq⟩, Or.inr (Or.inr (Or.inl ⟨rfl, rfl, Hn1.out, Hc.out⟩))⟩
        · have Hn1 := Lib.hid n1
          have Hn2 := Lib.hid n2
          clear n1 n2
          have z : (((⟨#[60]⟩ : ByteArray)[0]'(by decide)).toNat : Int) = 60 := rfl
          by_cases hc : s[i] = 60
          · have hcb : ((s[i].toNat : Int) == 60) = true := by rw [hc]; rfl
            have hesc : escN s (i + 1) = escN s i ++ (#[38, 108, 116, 59] : Array UInt8).toList := by rw [escN_succ s i hlt, hc]; rfl
            have Hc := Lib.hid hesc
            clear hc hesc
            go_wp2_with fail
            go_quiet (fail)
            go_wp2_with fail
            refine (write_string B b _ ⟨#[38, 108, 116, 59]⟩ _ (HW.out.drewN nq).buf (Nat.le_trans hB (HW.out.drewN nq).below.size) (escN_bound hl hi hs) (by decide)).mono ?_
            rintro e w5 ⟨rfl, hW5⟩
            go_wp2_with fail
            go_roundg (s.size - (i + 1))
            case measure => omega
            case rel => exact ⟨i + 1, by simp, rfl, by omega, by rw [Hc.out, ← List.append_assoc]; exact (HW.out.drewN nq).trans hW5⟩
          · have hcb : ((s[i].toNat : Int) == 60) = false := ne_byte hc
            have Hc := Lib.hid hc
            clear hc
            go_wp2_with fail
            go_quiet (fail)
            go_wp2_with fail
            go_roundg 1
            case measure => omega
            case rel => exact ⟨⟨HW.out.drewN nq, hK2.drewN nq⟩, Or.inr (Or.inr (Or.inr (Or.inl ⟨rfl, rfl, Hn1.out, Hn2.out, Hc.out⟩)))⟩
        · have Hn1 := Lib.hid n1
          have Hn2 := Lib.hid n2
          have Hn3 := Lib.hid n3
          clear n1 n2 n3
          have z : (((⟨#[62]⟩ : ByteArray)[0]'(by decide)).toNat : Int) = 62 := rfl
          by_cases hc : s[i] = 62
          · have hcb : ((s[i].toNat : Int) == 62) = true := by rw [hc]; rfl
            have hesc : escN s (i + 1) = escN s i ++ (#[38, 103, 116, 59] : Array UInt8).toList := by rw [escN_succ s i hlt, hc]; rfl
            have Hc := Lib.hid hesc
            clear hc hesc
            go_wp2_with fail
            go_quiet (fail)
            go_wp2_with fail
            refine (write_string B b _ ⟨#[38, 103, 116, 59]⟩ _ (HW.out.drewN nq).buf (Nat.le_trans hB (HW.out.drewN nq).below.size) (escN_bound hl hi hs) (by decide)).mono ?_
            rintro e w5 ⟨rfl, hW5⟩
            go_wp2_with fail
            go_roundg (s.size - (i + 1))
            case measure => omega
            case rel => exact ⟨i + 1, by simp, rfl, by omega, by rw [Hc.out, ← List.append_assoc]; exact (HW.out.drewN nq).trans hW5⟩
          · have hcb : ((s[i].toNat : Int) == 62) = false := ne_byte hc
            have Hc := Lib.hid hc
            clear hc
            go_wp2_with fail
            go_quiet (fail)
            go_wp2_with fail
            go_roundg 0
            case measure => omega
            case rel => exact ⟨⟨HW.out.drewN nq, hK2.drewN nq⟩, Or.inr (Or.inr (Or.inr (Or.inr (⟨rfl, rfl, Hn1.out, Hn2.out, Hn3.out, Hc.out⟩))))⟩
        · have hesc : escN s (i + 1) = escN s i ++ [s[i]] := by rw [escN_succ s i hlt]; unfold escB; rw [if_neg n1, if_neg n2, if_neg n3, if_neg n4]
          have Hc := Lib.hid hesc
          clear n1 n2 n3 n4 hesc
          go_wp2_with fail
          refine (write_byte B b _ s[i] _ HW.out.buf (Nat.le_trans hB HW.out.below.size) (escN_bound hl hi hs)).mono ?_
          rintro e w5 ⟨rfl, hW5⟩
          go_wp2_with fail
          go_roundg (s.size - (i + 1))
          case measure => omega
          case rel => exact ⟨i + 1, by simp, rfl, by omega, by rw [Hc.out, ← List.append_assoc]; exact HW.out.trans hW5⟩
    · have hin : i = s.size := by omega
      have w1 : ¬ ((i : Int) < s.size) := by omega
      subst hin
      go_wp2_with fail
      go_end0
      exact ⟨rfl, HW.out⟩
end Go.Proofs.YtmmopoofheblbaaGreatDoor

/- Plain, Escaped, Text, Paragraph, Document to HTML. -/
namespace Go.Proofs.YtmmopoofheblbaaGreatDoor
open Go Go.RowKit Go.Proofs

theorem Wrote.alloc {w w1 : World} {B b : Nat} {l : List UInt8} (h : Wrote w w1 B b l) (hB : B ≤ w.heap.size) (o : Obj) : Wrote w (w1.alloc o) B b l :=
  ⟨h.buf.alloc o, h.below.alloc (Nat.le_trans hB h.below.size) o, h.others.alloc o⟩

theorem htmlEscaper_at (w : World) (n : Nat) (hn : w.heap.size = n) :
    Calls Tryz.prog 333 #[] w fun e w' => e = .returned (.slice (some ⟨n, 0, none⟩) 8 8) ∧ w' = w.alloc (.cells escCells 9) := by
  subst hn
  exact htmlEscaper_any w

theorem plain_print (B b xb : Nat) (l : List UInt8) (t : ByteArray) (w : World) (h : Lib.IsBuffer 95 5 B b (Lib.byteCells l) w) (hB : B ≤ w.heap.size) (hl : l.length ≤ 10000000) (ht : t.size ≤ 1000000) (hX : w.cell? ⟨xb, 0, none⟩ = some (.string t)) (_hXl : xb < B) :
    Calls Tryz.prog 390 #[.pointer (some ⟨xb, 0, none⟩), .pointer (some ⟨b, 0, none⟩)] w fun e w' => e = .returned (.tuple #[]) ∧ Wrote w w' B b (l ++ escN t t.size) := by
  go_enter Tryz.func390, Tryz.ntmps390
  go_wp2_with fail
  have hbl := h.lt
  have hd : Wrote w w.drew B b l := ⟨h, ⟨rfl, rfl, rfl, Nat.le_refl _, fun _ _ => rfl⟩, (Lib.OthersKept.refl _ _ w).drew⟩
  have h0 : Wrote w (w.drew.alloc (.cells escCells 9)) B b l := Wrote.alloc hd hB _
  have hX0 : w.drew.cell? ⟨xb, 0, none⟩ = some (.string t) := hX
  have hX1 : (w.drew.alloc (.cells escCells 9)).cell? ⟨xb, 0, none⟩ = some (.string t) := by
    rw [← hX0]; exact World.cell?_of_block (Below.heap_alloc _ _ _ (World.block_lt_of_cell? _ _ hX0))
  have hK : Blk (w.drew.alloc (.cells escCells 9)) w.heap.size escCells 9 := Blk.newAt (w := w.drew) _ _ rfl
  have HW := esc_write B b w.heap.size l t _ h0.buf (Nat.le_trans hB h0.below.size) hl ht hK (by omega)
  generalize hY : (w.drew.alloc (.cells escCells 9) : World) = Y at *
  go_region_with (first
    | (go_at_call 333; refine (htmlEscaper_at w.drew w.heap.size rfl).mono ?_; rintro e w1 ⟨rfl, hw1⟩; rw [hY] at hw1; subst hw1)
    | (go_at_call 313; refine HW.mono ?_; rintro e w2 ⟨rfl, h2⟩))
  all_goals
    go_wp2_with fail
    go_end0
    exact ⟨rfl, h0.trans h2⟩
end Go.Proofs.YtmmopoofheblbaaGreatDoor

/- zzPairs with any table of bytes and texts: WriteString, Replace; the escapers as such tables. -/
namespace Go.Proofs.YtmmopoofheblbaaGreatDoor
open Go Go.RowKit Go.Proofs

/-- A table: a byte, and the text that is put in its place. -/
abbrev Tab := List (UInt8 × ByteArray)
def tabL (t : Tab) : List Value := t.flatMap (fun p => [Value.string ⟨#[p.1]⟩, Value.string p.2])
def tabCells (t : Tab) : Array Value := (tabL t).toArray

theorem tabL_get : ∀ (t : Tab) (j : Nat) (p : UInt8 × ByteArray), t[j]? = some p → (tabL t)[2 * j]? = some (.string ⟨#[p.1]⟩) ∧ (tabL t)[2 * j + 1]? = some (.string p.2)
  | [], j, p, h => by simp at h
  | q :: t, 0, p, h => by
    have : q = p := by simpa using h
    subst this
    exact ⟨rfl, rfl⟩
  | q :: t, j + 1, p, h => by
    have h' : t[j]? = some p := by simpa using h
    obtain ⟨a, b⟩ := tabL_get t j p h'
    have e1 : 2 * (j + 1) = 2 * j + 1 + 1 := by omega
    rw [e1]
    exact ⟨a, b⟩

theorem tab_at {w : World} {K : Nat} {t : Tab} (h : Blk w K (tabCells t) 9) {j : Nat} {p : UInt8 × ByteArray} (hp : t[j]? = some p) :
    w.cell? ⟨K, 2 * j, none⟩ = some (.string ⟨#[p.1]⟩) ∧ w.cell? ⟨K, 2 * j + 1, none⟩ = some (.string p.2) := by
  obtain ⟨a, b⟩ := tabL_get t j p hp
  constructor
  · rw [h.cell]; simpa [tabCells] using a
  · rw [h.cell]; simpa [tabCells] using b

/-- What the table makes of a byte. -/
def lk : Tab → UInt8 → List UInt8
  | [], c => [c]
  | p :: t, c => if c = p.1 then p.2.data.toList else lk t c

theorem lk_hit : ∀ {t : Tab} {j : Nat} {p : UInt8 × ByteArray} {c : UInt8}, t[j]? = some p → (∀ (i : Nat) (q : UInt8 × ByteArray), i < j → t[i]? = some q → c ≠ q.1) → c = p.1 → lk t c = p.2.data.toList
  | [], j, p, c, h, _, _ => by simp at h
  | q :: t, 0, p, c, h, _, hc => by
    have : q = p := by simpa using h
    subst this
    rw [lk, if_pos hc]
  | q :: t, j + 1, p, c, h, hn, hc => by
    have h0 : c ≠ q.1 := hn 0 q (by omega) rfl
    rw [lk, if_neg h0]
    exact lk_hit (by simpa using h) (fun i r hi hr => hn (i + 1) r (by omega) (by simpa using hr)) hc

theorem lk_miss : ∀ {t : Tab} {c : UInt8}, (∀ (i : Nat) (q : UInt8 × ByteArray), t[i]? = some q → c ≠ q.1) → lk t c = [c]
  | [], c, _ => rfl
  | q :: t, c, hn => by
    rw [lk, if_neg (hn 0 q rfl)]
    exact lk_miss (fun i r hr => hn (i + 1) r (by simpa using hr))

/-- Texts of at most six bytes, of a table not too long. -/
structure TabOk (t : Tab) : Prop where
  len : t.length ≤ 1000
  six : ∀ p ∈ t, p.2.size ≤ 6

theorem lk_len : ∀ {t : Tab}, (∀ p ∈ t, p.2.size ≤ 6) → ∀ c, (lk t c).length ≤ 6
  | [], _, c => by simp [lk]
  | q :: t, h, c => by
    rw [lk]
    split
    · have := h q List.mem_cons_self
      have e : q.2.data.toList.length = q.2.size := rfl
      omega
    · exact lk_len (fun p hp => h p (List.mem_cons_of_mem _ hp)) c

def lkN (t : Tab) (s : ByteArray) (i : Nat) : List UInt8 := (s.data.toList.take i).flatMap (lk t)

theorem lkN_all (t : Tab) (s : ByteArray) : lkN t s s.size = s.data.toList.flatMap (lk t) := by
  unfold lkN
  have : s.size = s.data.toList.length := rfl
  rw [this, List.take_length]

theorem lkN_succ (t : Tab) (s : ByteArray) (i : Nat) (h : i < s.size) : lkN t s (i + 1) = lkN t s i ++ lk t s[i] := by
  unfold lkN
  have h' : i < s.data.toList.length := by simpa using h
  rw [List.take_succ_eq_append_getElem h', List.flatMap_append]
  simp
  rfl

theorem lkN_len {t : Tab} (ht : TabOk t) (s : ByteArray) : ∀ i, i ≤ s.size → (lkN t s i).length ≤ 6 * i
  | 0, _ => by simp [lkN]
  | i + 1, h => by
    have h1 := lkN_len ht s i (by omega)
    have h2 := lk_len ht.six (s[i]'(by omega))
    rw [lkN_succ t s i (by omega), List.length_append]
    omega

theorem lkN_bound {t : Tab} (ht : TabOk t) {l : List UInt8} {s : ByteArray} {i : Nat} (hl : l.length ≤ 10000000) (hi : i ≤ s.size) (hs : s.size ≤ 1000000) : (l ++ lkN t s i).length ≤ 100000000 := by
  have := lkN_len ht s i hi
  rw [List.length_append]
  omega

theorem tab_nth {t : Tab} {j : Nat} (h : j < t.length) : ∃ p, t[j]? = some p := ⟨t[j], List.getElem?_eq_getElem h⟩

set_option maxRecDepth 100000 in
set_option maxHeartbeats 8000000 in
theorem pairs_write (t : Tab) (ht : TabOk t) (B b K n : Nat) (hn : n = 2 * t.length) (l : List UInt8) (s : ByteArray) (w : World) (h : Lib.IsBuffer 95 5 B b (Lib.byteCells l) w) (hB : B ≤ w.heap.size) (hl : l.length ≤ 10000000) (hs : s.size ≤ 1000000) (hK : Blk w K (tabCells t) 9) (hKb : K ≠ b) :
    Calls Tryz.prog 313 #[.slice (some ⟨K, 0, none⟩) n n, .pointer (some ⟨b, 0, none⟩), .string s] w fun e w' => e = .returned (.tuple #[]) ∧ Wrote w w' B b (l ++ lkN t s s.size) := by
  have HN := Lib.hid hn
  have htl := ht.len
  have hn9 : n ≤ 2000 := by omega
  clear hn
  go_enter Tryz.func313, Tryz.ntmps313
  go_wp2_with fail
  go_step3
  go_wp2_with fail
  go_step3
  go_wp2_with fail
  go_loopg [6] s.size (fun m v6 wr => ∃ i : Nat, v6 = .int .i64 i ∧ m = s.size - i ∧ i ≤ s.size ∧ Wrote w wr B b (l ++ lkN t s i))
  case atStart => exact ⟨0, rfl, rfl, Nat.zero_le _, by simpa [lkN] using h, Below.refl _ _, Lib.OthersKept.refl _ _ _⟩
  case round =>
    obtain ⟨i, rfl, rfl, hi, hW⟩ := hrel
    have hK1 := blk_others hK hW.others hKb (by decide)
    have HW := Lib.hid hW
    clear hW
    by_cases hlt : i < s.size
    · have w1 : (i : Int) < s.size := by omega
      have w2 : (0 : Int) ≤ i := by omega
      have w3 : IntKind.i64.wrap ((i : Int) + 1) = (i : Int) + 1 := IntWalk.i64_in _ (by omega)
      go_wp2_with fail
      go_loopg [7] t.length (fun m v7 wx => (Wrote w wx B b (l ++ lkN t s i) ∧ Blk wx K (tabCells t) 9) ∧ ∃ j k : Nat, k = 2 * j ∧ v7 = .int .i64 k ∧ m = t.length - j ∧ j ≤ t.length ∧ ∀ (i' : Nat) (q : UInt8 × ByteArray), i' < j → t[i']? = some q → s[i] ≠ q.1)
      case atStart => exact ⟨⟨HW.out, hK1⟩, 0, 0, rfl, rfl, rfl, Nat.zero_le _, fun i' q h _ => absurd h (Nat.not_lt_zero _)⟩
      case round =>
        clear HW hK1
        obtain ⟨⟨hW2, hK2⟩, j, k, hk, rfl, rfl, hj, hno⟩ := hrel
        have HW := Lib.hid hW2
        have HK := Lib.hid hk
        have HNO := Lib.hid hno
        have hkn : k ≤ n := by have := HN.out; omega
        clear hW2 hno
        by_cases hjl : j < t.length
        · obtain ⟨p, hp⟩ := tab_nth hjl
          obtain ⟨k0, k1⟩ := tab_at hK2 hp
          rw [← hk] at k0 k1
          have HP := Lib.hid hp
          have v1 : (k : Int) < n := by have := HN.out; omega
          have v2 : (0 : Int) ≤ k := by omega
          have v3 : IntKind.i64.wrap ((k : Int) + 1) = (k : Int) + 1 := IntWalk.i64_in _ (by omega)
          have v4 : (k : Int) + 1 < n := by have := HN.out; omega
          have v5 : (0 : Int) ≤ (k : Int) + 1 := by omega
          have v6 : ((k : Int) + 1).toNat = k + 1 := by omega
          have v7 : IntKind.i64.wrap ((k : Int) + 2) = (k : Int) + 2 := IntWalk.i64_in _ (by omega)
          have z : (((⟨#[p.1]⟩ : ByteArray)[0]'Nat.zero_lt_one).toNat : Int) = p.1.toNat := rfl
          have hp6 : p.2.size ≤ 6 := ht.six p (List.mem_of_getElem? hp)
          clear hk hp
          by_cases hc : s[i] = p.1
          · have hcb : ((s[i].toNat : Int) == (p.1.toNat : Int)) = true := by rw [hc]; simp
            have hesc : lkN t s (i + 1) = lkN t s i ++ p.2.data.toList := by rw [lkN_succ t s i hlt, lk_hit HP.out HNO.out hc]
            have Hc := Lib.hid hesc
            clear hc hesc
            go_wp2_with fail
            go_quiet (fail)
            go_wp2_with fail
            refine (write_string B b _ p.2 _ (HW.out.drewN nq).buf (Nat.le_trans hB (HW.out.drewN nq).below.size) (lkN_bound ht hl hi hs) (by omega)).mono ?_
            rintro e w5 ⟨rfl, hW5⟩
            go_wp2_with fail
            go_roundg (s.size - (i + 1))
            case measure => omega
            case rel => exact ⟨i + 1, by simp, rfl, by omega, by rw [Hc.out, ← List.append_assoc]; exact (HW.out.drewN nq).trans hW5⟩
          · have hcb : ((s[i].toNat : Int) == (p.1.toNat : Int)) = false := beq_eq_false_iff_ne.2 (fun he => hc (UInt8.toNat_inj.1 (by omega)))
            have Hc := Lib.hid hc
            clear hc
            go_wp2_with fail
            go_quiet (fail)
            go_wp2_with fail
            go_roundg (t.length - (j + 1))
            case measure => omega
            case rel =>
              refine ⟨⟨HW.out.drewN nq, hK2.drewN nq⟩, j + 1, k + 2, by have := HK.out; omega, by simp, rfl, by omega, ?_⟩
              intro i' q hi' hq
              by_cases he : i' = j
              · subst he
                have : q = p := Option.some.inj (hq.symm.trans HP.out)
                rw [this]; exact Hc.out
              · exact HNO.out i' q (by omega) hq
        · have hjn : j = t.length := by omega
          have v1 : ¬ ((k : Int) < n) := by have := HN.out; have := HK.out; omega
          have hesc : lkN t s (i + 1) = lkN t s i ++ [s[i]] := by
            rw [lkN_succ t s i hlt, lk_miss]
            intro i' q hq
            have := (List.getElem?_eq_some_iff.1 hq).1
            exact HNO.out i' q (by omega) hq
          have Hc := Lib.hid hesc
          clear hesc hk
          go_wp2_with fail
          refine (write_byte B b _ s[i] _ HW.out.buf (Nat.le_trans hB HW.out.below.size) (lkN_bound ht hl hi hs)).mono ?_
          rintro e w5 ⟨rfl, hW5⟩
          go_wp2_with fail
          go_roundg (s.size - (i + 1))
          case measure => omega
          case rel => exact ⟨i + 1, by simp, rfl, by omega, by rw [Hc.out, ← List.append_assoc]; exact HW.out.trans hW5⟩
    · have hin : i = s.size := by omega
      have w1 : ¬ ((i : Int) < s.size) := by omega
      subst hin
      go_wp2_with fail
      go_end0
      exact ⟨rfl, HW.out⟩

theorem Wrote.same0 {w w' : World} {B b : Nat} {l : List UInt8} (h : Wrote w w' B b l) (hB : w.heap.size ≤ B) : Same w w' :=
  ⟨h.below.os, h.below.tape, h.below.output, h.below.size, fun k hk _ => h.below.block k (Nat.lt_of_lt_of_le hk hB)⟩

theorem Wrote.from0 {w0 w w' : World} {B b : Nat} {l : List UInt8} (hS : Same w0 w) (hB : w0.heap.size ≤ B) (h : Wrote w w' B b l) : Same w0 w' :=
  Mods.then hS (Below.mods (S := fun k => B ≤ k) h.below (fun k _ hk => hk)) (fun b hb hk => by omega)

set_option maxRecDepth 100000 in
set_option maxHeartbeats 4000000 in
theorem pairs_replace (t : Tab) (ht : TabOk t) (K n : Nat) (hn : n = 2 * t.length) (s : ByteArray) (w : World) (hs : s.size ≤ 1000000) (hK : Blk w K (tabCells t) 9) :
    Calls Tryz.prog 309 #[.slice (some ⟨K, 0, none⟩) n n, .string s] w fun e w' => e = .returned (.string ⟨(lkN t s s.size).toArray⟩) ∧ Same w w' := by
  have hKl := hK.lt
  have HN := Lib.hid hn
  clear hn
  go_enter Tryz.func309, Tryz.ntmps309
  go_wp2_with fail
  have hF := Lib.fresh_isBuffer 95 5 w
  have hS : Same w (w.alloc (.cells #[.slice none 0 0, .int .i64 0, .int .i8 0] 95)) := (Mods.refl _ w).alloc _
  have hK1 := hS.blk hK
  generalize hW : (w.alloc _ : World) = W at *
  refine (pairs_write t ht w.heap.size w.heap.size K n HN.out [] s W hF hS.size (by simp) hs hK1 (by omega)).mono ?_
  rintro e w1 ⟨rfl, h1⟩
  have hS1 := Wrote.from0 hS (Nat.le_refl _) h1
  go_wp2_with fail
  refine (Tryz.Buffer_String w.heap.size w.heap.size _ w1 h1.buf).mono ?_
  rintro e w2 ⟨rfl, k, rfl⟩
  go_wp2_with fail
  go_ret
  exact ⟨rfl, hS1.drewN k⟩

theorem Wrote.keep {w w1 w2 : World} {B b : Nat} {l : List UInt8} (h : Wrote w w1 B b l) (hB : B ≤ w.heap.size) (hS : Same w1 w2) : Wrote w w2 B b l := by
  have hb : Below w1.heap.size w1 w2 := hS.below (Nat.le_refl _) (fun _ _ x => x)
  exact ⟨h.buf.old hb, h.below.trans (hS.below (Nat.le_trans hB h.below.size) (fun _ _ x => x)), h.others.below hb⟩

/-- The tables of the escapers. -/
def escTab : Tab := [(34, ⟨#[38, 113, 117, 111, 116, 59]⟩), (38, ⟨#[38, 97, 109, 112, 59]⟩), (60, ⟨#[38, 108, 116, 59]⟩), (62, ⟨#[38, 103, 116, 59]⟩)]
theorem escTab_cells : tabCells escTab = escCells := rfl
theorem escTab_ok : TabOk escTab := ⟨by decide +kernel, by decide +kernel⟩
theorem escTab_lk (c : UInt8) : lk escTab c = escB c := by
  unfold escTab escB lk lk lk lk lk
  rfl
theorem escTab_lkN (s : ByteArray) (i : Nat) : lkN escTab s i = escN s i := by
  unfold lkN escN
  have : lk escTab = escB := funext escTab_lk
  rw [this]

def hex1 (n : Nat) : UInt8 := if n < 10 then UInt8.ofNat (48 + n) else UInt8.ofNat (55 + n)
def pct (c : Nat) : UInt8 × ByteArray := (UInt8.ofNat c, ⟨#[37, hex1 (c / 16), hex1 (c % 16)]⟩)
def linkTab : Tab := [pct 34, (38, ⟨#[38, 97, 109, 112, 59]⟩)] ++ ([60, 62, 92, 32, 96, 91, 93, 94, 123, 125] ++ [0, 1, 2, 3, 4, 5, 6, 7, 8, 11, 12] ++ (List.range 18).map (· + 14) ++ (List.range 129).map (· + 127)).map pct
set_option maxRecDepth 100000 in
theorem linkTab_ok : TabOk linkTab := ⟨by decide +kernel, by decide +kernel⟩
end Go.Proofs.YtmmopoofheblbaaGreatDoor
