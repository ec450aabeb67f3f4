/- (*Parser).parse of one line of plain bytes and escaped signs. -/
import Derived.Test.YtdnlfdppjfjncaaGreatDoorTrim
import Derived.Test.YtdnlfdppjfjncaaGreatDoorHead
import Derived.Deep.LoopGhost
namespace Go.Proofs.YtdnlfdppjfjncaaGreatDoor
open Go Go.RowKit Go.Proofs

/-- The parser's options. -/
structure Off (w : World) (pp : Nat) : Prop where
  lt : pp < w.heap.size
  ex : ∃ cs, Blk w pp cs 76 ∧ (∀ k, k < 10 → cs[k]? = some (.bool false))

theorem Off.opt {w : World} {pp : Nat} (h : Off w pp) {p : PSt} (hp : p.parser = pp) (k : Nat) (hk : k < 10) : Opt w p k false := by
  obtain ⟨cs, h1, h2⟩ := h.ex
  exact ⟨cs, by rw [hp]; exact h1, h2 k hk⟩
theorem Off.same {w w' : World} {pp : Nat} (h : Off w pp) (hm : Same w w') : Off w' pp := by
  obtain ⟨cs, h1, h2⟩ := h.ex
  exact ⟨Nat.lt_of_lt_of_le h.lt hm.size, cs, hm.blk h1, h2⟩

/-- A line as FnEscaped writes it. -/
structure OneLine (s : ByteArray) : Prop where
  pos : 0 < s.size
  small : s.size ≤ 900000
  first : isW s[0] = false
  last : isW (s[s.size - 1]'(by omega)) = false
  no0 : ∀ i (hi : i < s.size), s[i] ≠ 0
  no10 : ∀ i (hi : i < s.size), s[i] ≠ 10
  no13 : ∀ i (hi : i < s.size), s[i] ≠ 13
  no91 : s[0] ≠ 91
  no9 : ∀ i (hi : i < s.size), s[i] ≠ 9
  begins : Begins s 0
  escd : Escd s 0

theorem trimL_id {s : ByteArray} (h0 : 0 < s.size) (h : isW s[0] = false) : trimL (s.extract 0 s.size) = s := by
  have he := ext_all s
  rw [he]
  unfold trimL
  have : ws s 0 = 0 := by rw [ws, dif_pos h0, h]; rfl
  rw [this, he]
theorem blankAt_id {s : ByteArray} (h0 : 0 < s.size) (h : isW s[0] = false) : blankAt s 0 = false := by
  unfold blankAt
  rw [trimL_id h0 h]
  exact bs_ne h0

def p0 (pp : Nat) : PSt := ⟨pp, .pointer none, .map none, 0, .slice none 0 0, -1, false, ⟨#[]⟩, 0, .slice none 0 0, .slice none 0 0, .slice none 0 0⟩

/-- The parse state when the line has been read. -/
def p2 (pp g cap : Nat) : PSt := { p0 pp with lineno := 1, depth := 0, stack := .slice (some ⟨g, 0, none⟩) (0 + 2) cap }

/-- What stands of the document when both blocks are closed. -/
structure TwoClosed (w w' : World) (bp g cap pp : Nat) (s : ByteArray) : Prop where
  mods : Mods (fun k => k = bp ∨ k = g) w w'
  ex : ∃ rk pk tb tg tc ig ic, w.heap.size ≤ rk ∧ w.heap.size ≤ pk ∧ w.heap.size ≤ tb ∧
    Blk w' rk #[.int .i64 0, .int .i64 0, .slice (some ⟨ig, 0, none⟩) 1 ic, .map none] 339 ∧
    Blk w' pk #[.int .i64 1, .int .i64 1, .pointer (some ⟨tb, 0, none⟩)] 155 ∧
    Blk w' tb #[.int .i64 1, .int .i64 1, .slice none 0 0, .string s] 110 ∧
    PsAt w' bp { p2 pp g cap with texts := .slice (some ⟨tg, 0, none⟩) 1 tc, stack := .slice (some ⟨g, 0, none⟩) 0 cap, root := .pointer (some ⟨rk, 0, none⟩) } ∧
    w'.ownsRow 0 105 1 (.slice (some ⟨tg, 0, none⟩) 1 tc) 1 [.pointer (some ⟨tb, 0, none⟩)] ∧
    w'.ownsRow 0 68 1 (.slice (some ⟨ig, 0, none⟩) 1 ic) 1 [.iface 153 (.pointer (some ⟨pk, 0, none⟩))]

theorem closed_two (bp g cap bb pp : Nat) (tv : Value) (s : ByteArray) (v : Option Addr) (w : World) (hp : PsAt w bp (p2 pp g cap))
    (hown : w.ownsRow 0 121 4 (.slice (some ⟨g, 0, none⟩) (0 + 2) cap) (0 + 2) ([.iface 98 (.pointer v), .slice none 0 0, .int .i64 0, .int .i64 0] ++ [.iface 162 (.pointer (some ⟨bb, 0, none⟩)), .slice none 0 0, .int .i64 1, .int .i64 1]))
    (hB : Blk w bb #[tv, .pointer none] 166) (htv : w.ownsRow 0 9 1 tv 1 [.string s]) (hs : OneLine s) :
    Calls Tryz.prog 65 #[.pointer (some ⟨bp, 0, none⟩), .int .i64 0] w fun e w' => e = .returned (.tuple #[]) ∧ TwoClosed w w' bp g cap pp s := by
  have hs6 : s.size ≤ 1000000 := by have := hs.small; omega
  obtain ⟨gt, ct, rfl, _, _, hc⟩ := ownsRow_form htv (by omega)
  have hc0 := hc 0 _ rfl
  have hJ : ∀ W, Same w W → Calls Tryz.prog 29 #[.slice (some ⟨gt, 0, none⟩) 1 ct, .string ⟨#[10]⟩] W fun e W' => e = .returned (.string s) ∧ Same W W' := fun W hW =>
    (join_one gt ct s ⟨#[10]⟩ W ((World.cell?_of_block (hW.block gt (World.block_lt_of_cell? _ _ hc0) (fun x => x))).trans hc0)).mono fun e W' ⟨h1, h2⟩ => ⟨h1, by rw [← h2]; exact Mods.refl _ _⟩
  have h91 := hs.no91
  have h10 := hs.no10 0 hs.pos
  have h9 := hs.no9 0 hs.pos
  have h32 : s[0]'hs.pos ≠ 32 := by intro h; have := hs.first; rw [h] at this; cases this
  have hcl := closePara bp bb g 0 cap 0 0 (p2 pp g cap) [] [] [] (.iface 98 (.pointer v)) (.slice none 0 0) (.slice none 0 0) _ 0 0 1 1 1 s w hp rfl (by omega) hown ⟨rfl, Or.inl ⟨rfl, rfl⟩⟩ (by omega) hB ⟨_, _, rfl⟩ (by omega)
    ⟨rfl, Or.inl ⟨rfl, rfl⟩⟩ (by omega) hJ hs.pos hs6 h32 h9 h10 h91 (by omega) (by omega)
  have hgen := trimStack_gen bp 0 (fun k W => match k with
    | 2 => W = w
    | 1 => ∃ u, ParaClosed w W bp g 0 cap 0 0 (p2 pp g cap) [] [] [] (.iface 98 (.pointer v)) (.slice none 0 0) 0 0 1 (1 + (1 : Nat) - 1) s u
    | 0 => TwoClosed w W bp g cap pp s
    | _ => False) (by omega) ?_ ?_ 2 w rfl
  · exact hgen
  · intro k W hP
    match k, hP with
    | 2, hP => subst hP; exact ⟨by omega, _, _, hp.stack⟩
    | 1, ⟨u, hPC⟩ =>
      obtain ⟨pk, tb, tg, tc, ig, ic, _, _, _, _, _, h, _⟩ := hPC.ex
      exact ⟨by omega, _, _, h.stack⟩
    | 0, hP =>
      obtain ⟨rk, pk, tb, tg, tc, ig, ic, _, _, _, _, _, _, h, _⟩ := hP.ex
      exact ⟨by omega, _, _, h.stack⟩
  · intro k W hP
    match k, hP with
    | 1, hP => subst hP; exact hcl.mono fun e w' ⟨v1, h1, h2⟩ => ⟨v1, h1, v1, h2⟩
    | 0, ⟨u, hPC⟩ =>
      obtain ⟨pk, tb, tg, tc, ig, ic, _, hpk, htb, hPb, hTb, hps, htx, hrow, hin⟩ := hPC.ex
      refine (closeRoot bp g cap _ v (some ⟨ig, 0, none⟩) 1 ic none 0 0 W hps rfl hrow rfl).mono ?_
      rintro e W' ⟨u', rfl, hm, rk, hrk, hR, hps'⟩
      have h1 := hPC.mods.size
      have hne : ∀ {b : Nat} {cs : Array Value} {T : Nat}, Blk W b cs T → T ≠ 95 → ¬ (b = bp) := fun h hT => by
        obtain ⟨tail, htl⟩ := id hps
        exact h.ne_of_type htl hT
      refine ⟨u', rfl, ?_, rk, pk, tb, tg, tc, ig, ic, by omega, hpk, htb, hR, hPb.keep hm (hne hPb (by decide)), hTb.keep hm (hne hTb (by decide)), hps', ?_, ?_⟩
      · refine (hPC.mods.mono (fun k _ h => ?_)).trans (hm.mono (fun _ _ h => Or.inl h))
        rcases h with h | h | h | h
        · exact Or.inl h
        · exact Or.inr h
        · cases h
        · cases h
      · exact ownsRow_keep htx hm (fun k hk x => own_ne_ps htx hps (by decide) (by rw [← x]; exact hk))
      · exact ownsRow_keep hin hm (fun k hk x => own_ne_ps hin hps (by decide) (by rw [← x]; exact hk))

/-- The document of one paragraph of one line. -/
structure DocAt (w w' : World) (bp rk pp : Nat) (s : ByteArray) : Prop where
  mods : Same w w'
  ps : ∃ q : PSt, PsAt w' bp q ∧ q.root = .pointer (some ⟨rk, 0, none⟩) ∧ q.corner = false
  ex : ∃ pk tb ig ic gl n lc xs, Blk w' rk #[.int .i64 0, .int .i64 0, .slice (some ⟨ig, 0, none⟩) 1 ic, .map none] 339 ∧
    w'.ownsRow 0 68 1 (.slice (some ⟨ig, 0, none⟩) 1 ic) 1 [.iface 153 (.pointer (some ⟨pk, 0, none⟩))] ∧
    Blk w' pk #[.int .i64 1, .int .i64 1, .pointer (some ⟨tb, 0, none⟩)] 155 ∧
    Blk w' tb #[.int .i64 1, .int .i64 1, .slice (some ⟨gl, 0, none⟩) n lc, .string s] 110 ∧
    0 < n ∧ n ≤ s.size + 1 ∧ w'.ownsRow 0 132 1 (.slice (some ⟨gl, 0, none⟩) n lc) n xs ∧ PcsAt w' xs (scan s 0 0)

theorem DocAt.same {w w1 w2 : World} {bp rk pp : Nat} {s : ByteArray} (h : DocAt w w1 bp rk pp s) (hm : Same w1 w2) : DocAt w w2 bp rk pp s := by
  obtain ⟨h1, ⟨q, hq, hq1, hq2⟩, pk, tb, ig, ic, gl, n, lc, xs, a1, a2, a3, a4, a5, a6, a7, a8⟩ := h
  exact ⟨h1.trans hm, ⟨q, hq.same hm, hq1, hq2⟩, pk, tb, ig, ic, gl, n, lc, xs, hm.blk a1, ownsRow_keep a2 hm (fun _ _ x => x), hm.blk a3, hm.blk a4, a5, a6, ownsRow_keep a7 hm (fun _ _ x => x), a8.keep hm (fun _ _ _ _ _ x => x)⟩

theorem docAt_mk {w w3 w4 : World} {bp rk pk tb ig ic gl n lc pp : Nat} {q : PSt} {s : ByteArray} {xs : List Value} (hm : Same w w3) (hbp : w.heap.size ≤ bp) (htb : w.heap.size ≤ tb) (hps : PsAt w3 bp q)
    (hR : Blk w3 rk #[.int .i64 0, .int .i64 0, .slice (some ⟨ig, 0, none⟩) 1 ic, .map none] 339) (hPk : Blk w3 pk #[.int .i64 1, .int .i64 1, .pointer (some ⟨tb, 0, none⟩)] 155)
    (hT : Blk w3 tb #[.int .i64 1, .int .i64 1, .slice none 0 0, .string s] 110) (hin : w3.ownsRow 0 68 1 (.slice (some ⟨ig, 0, none⟩) 1 ic) 1 [.iface 153 (.pointer (some ⟨pk, 0, none⟩))])
    (hH : Held w3 w4 bp q s s.size n (.slice (some ⟨gl, 0, none⟩) n lc) xs (scan s 0 0)) (hn0 : 0 < n) (hn1 : n ≤ s.size + 1) (hq1 : q.root = .pointer (some ⟨rk, 0, none⟩)) (hq2 : q.corner = false) :
    DocAt w (w4.setCell ⟨tb, 2, none⟩ (.slice (some ⟨gl, 0, none⟩) n lc)) bp rk pp s := by
  obtain ⟨tail, htl⟩ := id hps
  have hT4 := hT.keep1 hH.mods (hT.ne_of_type htl (by decide))
  have hm5 : Mods (fun k => k = tb) w4 (w4.setCell ⟨tb, 2, none⟩ (.slice (some ⟨gl, 0, none⟩) n lc)) := (Mods.refl (fun k => k = tb) w4).setCell (p := ⟨tb, 2, none⟩) (fun _ => rfl) _
  have hin4 := ownsRow_keep hin hH.mods (fun k hk x => own_ne_ps hin hps (by decide) (by rw [← x]; exact hk))
  have hne : ∀ {b : Nat} {cs : Array Value} {T : Nat}, Blk w4 b cs T → T ≠ 110 → b ≠ tb := fun h hT => h.ne_of_type hT4 hT
  refine ⟨?_, ⟨_, hH.at_.set_other (a := ⟨tb, 2, none⟩) (hT.ne_of_type htl (by decide)) _, hq1, hq2⟩, pk, tb, ig, ic, gl, n, lc, xs, ?_, ?_, ?_, hT4.set_same 2 _, hn0, hn1, ?_, ?_⟩
  · exact (hm.then hH.mods (fun b hb h => by omega)).then hm5 (fun b hb h => by omega)
  · exact (hR.keep1 hH.mods (hR.ne_of_type htl (by decide))).keep1 hm5 (hne (hR.keep1 hH.mods (hR.ne_of_type htl (by decide))) (by decide))
  · exact ownsRow_keep hin4 hm5 (fun k hk x => own_ne hin4 hT4 (by decide) (by rw [← x]; exact hk))
  · exact (hPk.keep1 hH.mods (hPk.ne_of_type htl (by decide))).keep1 hm5 (hne (hPk.keep1 hH.mods (hPk.ne_of_type htl (by decide))) (by decide))
  · exact ownsRow_keep hH.row hm5 (fun k hk x => own_ne hH.row hT4 (by decide) (by rw [← x]; exact hk))
  · exact hH.pcs.keep hm5 (fun b cs T hb hTT x => by
      refine hne hb ?_ x
      rcases hTT with rfl | rfl <;> decide)

set_option maxRecDepth 100000 in
set_option maxHeartbeats 8000000 in
theorem parse_line (pp : Nat) (s : ByteArray) (w : World) (hs : OneLine s) (hO : Off w pp) :
    Calls Tryz.prog 51 #[.pointer (some ⟨pp, 0, none⟩), .string s] w fun e w' => ∃ bp rk, e = .returned (.tuple #[.pointer (some ⟨rk, 0, none⟩), .bool false]) ∧ DocAt w w' bp rk pp s := by
  have hs6 : s.size ≤ 1000000 := by have := hs.small; omega
  have i0 := idx1_none hs.no0
  have i10 := idx1_none hs.no10
  have i13 := idx1_none hs.no13
  go_enter Tryz.func51, Tryz.ntmps51
  go_wp2_with fail
  refine (zzContains_any s 0 _ hs6).mono ?_
  rintro e w' ⟨rfl, rfl⟩
  rw [i0]
  generalize hW : (World.alloc _ _ : World) = W
  have hm0 : Same w W := by subst hW; exact (Mods.refl _ w).alloc _
  have hp0 : PsAt W w.heap.size { p0 pp with depth := 0 } := by
    subst hW
    exact ⟨Tryz.zeroCells95.toList.drop 12, Blk.newAt _ _ rfl⟩
  clear hW
  generalize hbp : w.heap.size = bp at *
  have hO0 := hO.same hm0
  have k5 := hp0.depth
  have f5 := hp0.fr 5
  have hbl := hp0.lt
  go_wp2_with fail
  generalize hX : (World.alloc (World.setCell _ _ _) _ : World) = X
  have hmX : Same w X := by
    subst hX
    exact (hm0.setCell (p := ⟨bp, 5, none⟩) (fun h => absurd h (Nat.not_lt.2 (Nat.le_of_eq hbp))) _).alloc _
  have hpX : PsAt X bp (p0 pp) := by
    subst hX
    exact PsAt.alloc (hp0.set 5 (.int .i64 (-1)) (p0 pp) rfl (by decide)) _
  clear hX
  refine (addBlock_any bp 0 0 none (p0 pp) _ (.pointer (some ⟨W.heap.size, 0, none⟩)) [] (-1) X hpX rfl (by omega) rfl rfl ⟨rfl, Or.inl ⟨rfl, rfl⟩⟩ (fun g h => by cases h) rfl).mono ?_
  rintro e w1 ⟨rfl, hm1, g, cap, hp1, hown1, hgl1⟩
  have hmw1 : Same w w1 := hmX.then hm1 (fun b hb h => by
    rcases h with h | h
    · omega
    · cases h)
  have e0 : s.toList.isEmpty = false := bs_ne hs.pos
  have e0' : (!s.toList.isEmpty) = true := by rw [e0]; rfl
  clear k5 f5 hbl
  go_wp2_with fail
  go_loopg [1] 1 (fun k v1 wr => (k = 1 ∧ v1 = .string s ∧ wr = w1) ∨ (k = 0 ∧ v1 = .string ⟨#[]⟩ ∧ ParaNew w1 wr bp { p0 pp with lineno := 1, stack := .slice (some ⟨g, 0, none⟩) 1 cap, depth := 0 } 0 [.iface 98 (.pointer (some ⟨W.heap.size, 0, none⟩)), .slice none 0 0, .int .i64 0, .int .i64 0] s))
  case atStart => exact Or.inl ⟨rfl, rfl, rfl⟩
  case round =>
    rcases hrel with ⟨rfl, rfl, rfl⟩ | ⟨rfl, rfl, hPN⟩
    · go_wp2_with fail
      refine (zzIndex_any s 10 _ hs6).mono ?_
      rintro e w' ⟨rfl, rfl⟩
      rw [i10]
      go_wp2_with fail
      refine (zzIndex_any s 13 _ hs6).mono ?_
      rintro e w' ⟨rfl, rfl⟩
      rw [i13]
      have k3 : wr.cell? ⟨bp, 3, none⟩ = some (.int .i64 0) := hp1.lineno
      have f3 := hp1.fr 3
      have hbl := hp1.lt
      go_wp2_with fail
      generalize hY : (World.setCell wr _ _ : World) = Y
      have hmY : Mods (fun k => k = bp) wr Y := by subst hY; exact (Mods.refl (fun k => k = bp) wr).setCell (p := ⟨bp, 3, none⟩) (fun _ => rfl) _
      have hpY : PsAt Y bp { p0 pp with lineno := 1, stack := .slice (some ⟨g, 0, none⟩) 1 cap } := by subst hY; exact hp1.set 3 _ _ rfl (by decide)
      clear hY k3 f3 hbl
      have hownY := ownsRow_keep hown1 hmY (fun k hk x => own_ne_ps hown1 hp1 (by decide) (by rw [← x]; exact hk))
      have hOY := (hO.same hmw1)
      have hppb : pp ≠ bp := by have := hO.lt; omega
      have hOYo : Opt Y { p0 pp with lineno := 1, stack := .slice (some ⟨g, 0, none⟩) 1 cap } 5 false := (hOY.opt rfl 5 (by omega)).keep hmY hppb
      have hNP : NoPara Y bp g 0 cap { p0 pp with lineno := 1, stack := .slice (some ⟨g, 0, none⟩) 1 cap } 98 (.pointer (some ⟨W.heap.size, 0, none⟩)) :=
        ⟨hpY, rfl, by omega, (row_cells (n := 0) (l := []) hownY).1, by decide⟩
      refine (addLine_first bp g cap _ _ _ _ s 0 Y hNP hs6 (blankAt_id hs.pos hs.first) hOYo hownY hppb (fun V hV => triesNo_begins bp g 0 cap _ _ _ s 0 0 V hV rfl (by decide) (Nat.zero_le _) ⟨hs6, hs.no9⟩ hs.begins)).mono ?_
      rintro e w2 ⟨rfl, hPN⟩
      rw [trimL_id hs.pos hs.first] at hPN
      go_wp2_with fail
      go_roundg 0
      case measure => omega
      case rel => exact Or.inr ⟨rfl, rfl, ⟨(hmY.mono (fun _ _ h => Or.inl h)).trans hPN.mods, by obtain ⟨g', c', bb, tv, a1, a2, a3, a4, a5, a6⟩ := hPN.ex; exact ⟨g', c', bb, tv, a1, a2, a3, a4, Nat.le_trans hmY.size a5, fun hlt => a6 (Nat.lt_of_lt_of_le hlt hmY.size)⟩⟩⟩
    · go_wp2_with fail
      obtain ⟨hm2, g2, cap2, bb, tv, hp2, hown2, hB2, htv2, hbb, hg2⟩ := hPN
      refine (closed_two bp g2 cap2 bb pp tv s (some ⟨W.heap.size, 0, none⟩) wr hp2 hown2 hB2 htv2 hs).mono ?_
      rintro e w3 ⟨rfl, hTw⟩
      have hXs := hmX.size
      have hgw : w.heap.size ≤ g := by
        by_cases h : g < X.heap.size
        · cases hgl1 h
        · omega
      have hg2w : w.heap.size ≤ g2 := by
        by_cases h : g2 < w1.heap.size
        · have := hg2 h
          cases this
          exact hgw
        · have := hmw1.size; omega
      have hmw2 : Same w wr := hmw1.then hm2 (fun b hb h => by
        rcases h with h | h
        · omega
        · have hh : g = b := Option.some.inj h
          omega)
      have hmw3 : Same w w3 := hmw2.then hTw.mods (fun b hb h => by omega)
      have hrs := hmw2.size
      obtain ⟨rk, pk, tb, tg, tc, ig, ic, hrk, hpk, htb, hR, hPk, hT, hps, htx, hin⟩ := hTw.ex
      clear hp1 hown1 hgl1 hm1 hpX hmX hp0 hm0 hown2 hB2 htv2 hp2 hTw
      have k11 := hps.texts
      go_wp2_with fail
      go_loopg [83] 1 (fun k v83 wr2 => (k = 1 ∧ v83 = .int .i64 0 ∧ wr2 = w3) ∨ (k = 0 ∧ v83 = .int .i64 1 ∧ DocAt w wr2 bp rk pp s))
      case atStart => exact Or.inl ⟨rfl, rfl, rfl⟩
      case round =>
        rcases hrel with ⟨rfl, rfl, rfl⟩ | ⟨rfl, rfl, hDA⟩
        · obtain ⟨_, _, he, _, _, hc⟩ := ownsRow_form htx (by omega)
          cases he
          have t0 := hc 0 _ rfl
          have r3 := hT.cell 3
          go_wp2_with fail
          have hOw : Opt wr _ 3 false := (hO.same hmw3).opt (p := { p2 pp g2 cap2 with texts := .slice (some ⟨tg, 0, none⟩) 1 tc, stack := .slice (some ⟨g2, 0, none⟩) 0 cap2, root := .pointer (some ⟨rk, 0, none⟩) }) rfl 3 (by omega)
          refine (inline_any bp _ s wr hps hs.small hs.pos hs.escd hOw (by have := hO.lt; show pp ≠ bp; omega) (trimSpaceTab_id s wr hs6 hs.pos hs.first hs.last)).mono ?_
          rintro e w4 ⟨gl, n, lc, xs, rfl, hn0, hn1, hH⟩
          have hTne : tb ≠ bp := by
            obtain ⟨tail, htl⟩ := id hps
            exact hT.ne_of_type htl (by decide)
          have hT4 := hT.keep1 hH.mods hTne
          have c2 : w4.cell? ⟨tb, 2, none⟩ = some (.slice none 0 0) := hT4.cell 2
          have f2 := hT4.fr 2
          have l2 := hT4.lt
          go_wp2_with fail
          go_roundg 0
          case measure => omega
          case rel => exact Or.inr ⟨rfl, rfl, docAt_mk hmw3 (by omega) (by omega) hps hR hPk hT hin hH hn0 hn1 rfl rfl⟩
        · have hoff := (hO.same hDA.mods).opt (p := p0 pp) rfl 2 (by omega)
          have o2 : wr.cell? ⟨pp, 2, none⟩ = some (.bool false) := hoff.cell
          obtain ⟨q, hq, hq1, hq2⟩ := id hDA.ps
          have k1 := hq.root
          have k6 := hq.corner
          rw [hq1] at k1
          rw [hq2] at k6
          go_wp2_with fail
          go_quiet (fail)
          go_wp2_with fail
          go_ret2
          exact ⟨bp, rk, rfl, hDA.same ((Mods.refl _ wr).drewN nq)⟩

theorem parser_Parse (pp : Nat) (s : ByteArray) (w : World) (hs : OneLine s) (hO : Off w pp) :
    Calls Tryz.prog 39 #[.pointer (some ⟨pp, 0, none⟩), .string s] w fun e w' => ∃ bp rk, e = .returned (.pointer (some ⟨rk, 0, none⟩)) ∧ DocAt w w' bp rk pp s := by
  go_enter Tryz.func39, Tryz.ntmps39
  go_wp2_with fail
  refine (parse_line pp s w hs hO).mono ?_
  rintro e w' ⟨bp, rk, rfl, hD⟩
  go_wp2_with fail
  go_ret
  exact ⟨bp, rk, rfl, hD⟩
end Go.Proofs.YtdnlfdppjfjncaaGreatDoor
