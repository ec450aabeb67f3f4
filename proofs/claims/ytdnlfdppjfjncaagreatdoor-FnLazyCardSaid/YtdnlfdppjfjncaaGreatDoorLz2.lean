/- Some texts of one proof, put into one file: ParseN, ParseO, ManyHTML, PlanM, Cut, Quo6, Quo7, Law6. -/
import Derived.Shelf.Strings.Builder1
import Derived.Test.YtdnlfdppjfjncaaGreatDoorSt5
import Derived.Test.YtdnlfdppjfjncaaGreatDoorSt6
import Derived.Test.YtdnlfdppjfjncaaGreatDoorSt8
import Derived.Test.YtdnlfdppjfjncaaGreatDoorSt9
import Derived.Test.YtdnlfdppjfjncaaGreatDoorLz1
/- (*Parser).parse of a paragraph of some lines: a line is read. -/
namespace Go.Proofs.YtdnlfdppjfjncaaGreatDoor
open Go Go.RowKit Go.Proofs

def rootV (v : Option Addr) : Value := .iface 98 (.pointer v)

/-- What has been read behind j lines, seen from the world w. -/
structure Rd (w wr : World) (bp pp : Nat) (v : Option Addr) (ls : List ByteArray) (j : Nat) : Prop where
  same : Same w wr
  ex : ∃ g cap, w.heap.size ≤ g ∧
    ((j = 0 ∧ PsAt wr bp { p0 pp with stack := .slice (some ⟨g, 0, none⟩) 1 cap } ∧ wr.ownsRow 0 121 4 (.slice (some ⟨g, 0, none⟩) 1 cap) 1 [rootV v, .slice none 0 0, .int .i64 0, .int .i64 0]) ∨
     (0 < j ∧ ∃ bb gt ct ea eb, w.heap.size ≤ bb ∧ w.heap.size ≤ gt ∧
       ParaL wr bp g 1 cap { p2 pp g cap with lineno := (j : Nat) } (twoOB (rootV v) (.iface 162 (.pointer (some ⟨bb, 0, none⟩))) ea eb) bb gt ct j (ls.take j)))

theorem Rd.line {w wr : World} {bp pp : Nat} {v : Option Addr} {ls : List ByteArray} {j : Nat} (h : Rd w wr bp pp v ls j) :
    wr.cell? ⟨bp, 3, none⟩ = some (.int .i64 j) ∧ wr.frozen? ⟨bp, 3, none⟩ = false ∧ bp < wr.heap.size := by
  obtain ⟨g, cap, _, ⟨hj, hp, _⟩ | ⟨_, bb, gt, ct, ea, eb, _, _, hP⟩⟩ := h.ex
  · subst hj
    exact ⟨hp.lineno, hp.fr 3, hp.lt⟩
  · exact ⟨hP.at_.lineno, hP.at_.fr 3, hP.at_.lt⟩

theorem ParaL.setLine {w : World} {bp g n cap : Nat} {p : PSt} {L : List OB} {bb gt ct m : Nat} {xs : List ByteArray} (h : ParaL w bp g n cap p L bb gt ct m xs) (k : Int) :
    ParaL (w.setCell ⟨bp, 3, none⟩ (.int .i64 k)) bp g n cap { p with lineno := k } L bb gt ct m xs ∧ Mods (fun k => k = bp) w (w.setCell ⟨bp, 3, none⟩ (.int .i64 k)) := by
  have hm : Mods (fun k => k = bp) w (w.setCell ⟨bp, 3, none⟩ (.int .i64 k)) := (Mods.refl (fun k => k = bp) w).setCell (p := ⟨bp, 3, none⟩) (fun _ => rfl) _
  obtain ⟨tail, htl⟩ := id h.at_
  exact ⟨⟨h.at_.set 3 _ { p with lineno := k } rfl (by decide), h.stack, h.small, h.len, ownsRow_keep h.row hm (fun b hb x => by cases hb; exact htl.own_ne h.row (by decide) x.symm), h.top,
    h.blk.keep1 hm (h.blk.ne_of_type htl (by decide)), ownsRow_keep h.txt hm (fun b hb x => by cases hb; exact htl.own_ne h.txt (by decide) x.symm)⟩, hm⟩

theorem take_succ_get {ls : List ByteArray} {j : Nat} {l : ByteArray} (h : ls[j]? = some l) : ls.take (j + 1) = ls.take j ++ [l] := by
  rw [List.take_add_one, h]; rfl

theorem rd_step (w wr : World) (bp pp : Nat) (v : Option Addr) (ls : List ByteArray) (j : Nat) (l : ByteArray) (nl : Int) (hT : ParaText ls) (h : Rd w wr bp pp v ls j) (hj : ls[j]? = some l) (hO : Off w pp) (hbp : w.heap.size ≤ bp) :
    Calls Tryz.prog 64 #[.pointer (some ⟨bp, 0, none⟩), LV 0 l nl] (wr.setCell ⟨bp, 3, none⟩ (.int .i64 ((j : Int) + 1))) fun e w2 => e = .returned (.tuple #[]) ∧ Rd w w2 bp pp v ls (j + 1) := by
  have hmem : l ∈ ls := List.mem_of_getElem? hj
  have hjl : j < ls.length := (List.getElem?_eq_some_iff.1 hj).1
  have hcnt := hT.count
  have hpos := hT.pos l hmem
  have hfst := hT.first l hmem hpos
  have hsz := joinT_le ls l hmem
  have hsm := hT.small
  have hs6 : l.size ≤ 1000000 := by omega
  have hTx : Txt l := ⟨hs6, hT.no9 l hmem⟩
  have hpl := hO.lt
  obtain ⟨hsame, g, cap, hgw, hst⟩ := h
  have hws := hsame.size
  have hOr := hO.same hsame
  rcases hst with ⟨hj0, hp, hown⟩ | ⟨hj0, bb, gt, ct, ea, eb, hbb, hgt, hP⟩
  · subst hj0
    have hls : ∃ r, ls = l :: r := by
      cases hls : ls with
      | nil => rw [hls] at hj; cases hj
      | cons a r => rw [hls] at hj; exact ⟨r, by rw [Option.some.inj hj]⟩
    obtain ⟨r, hls⟩ := hls
    have hm : Mods (fun k => k = bp) wr (wr.setCell ⟨bp, 3, none⟩ (.int .i64 (((0 : Nat) : Int) + 1))) := (Mods.refl (fun k => k = bp) wr).setCell (p := ⟨bp, 3, none⟩) (fun _ => rfl) _
    have hpY : PsAt (wr.setCell ⟨bp, 3, none⟩ (.int .i64 (((0 : Nat) : Int) + 1))) bp { p0 pp with lineno := 1, stack := .slice (some ⟨g, 0, none⟩) 1 cap } := hp.set 3 _ _ rfl (by decide)
    have hownY := ownsRow_keep hown hm (fun k hk x => own_ne_ps hown hp (by decide) (by rw [← x]; exact hk))
    generalize (wr.setCell ⟨bp, 3, none⟩ (.int .i64 (((0 : Nat) : Int) + 1)) : World) = Y at *
    have hppb : pp ≠ bp := by omega
    have hOY : Opt Y { p0 pp with lineno := 1, stack := .slice (some ⟨g, 0, none⟩) 1 cap } 5 false := (hOr.opt rfl 5 (by omega)).keep hm hppb
    have hNP : NoPara Y bp g 0 cap { p0 pp with lineno := 1, stack := .slice (some ⟨g, 0, none⟩) 1 cap } 98 (.pointer v) := ⟨hpY, rfl, by omega, (row_cells (n := 0) (l := []) hownY).1, by decide⟩
    refine (addLine_first bp g cap _ _ _ _ l nl Y hNP hs6 (blankAt_id hpos hfst) hOY hownY hppb (fun V hV => triesNo_begins bp g 0 cap _ _ _ l 0 nl V hV rfl (by decide) (Nat.zero_le _) hTx (hT.begins l r hls))).mono ?_
    rintro e w2 ⟨rfl, hPN⟩
    rw [trimL_id hpos hfst] at hPN
    obtain ⟨hm2, g2, cap2, bb, tv, a1, a2, a3, a4, a5, a6, a7⟩ := hPN
    obtain ⟨gt, ct, rfl, ⟨cu, hcu⟩, _, _⟩ := ownsRow_form a4 (by omega)
    have hYs := hm.size
    have hsame2 : Same w w2 := (hsame.then hm (fun b hb x => by omega)).then hm2 (fun b hb x => by
      rcases x with x | x
      · omega
      · have hh : g = b := Option.some.inj x
        omega)
    have hg2 : w.heap.size ≤ g2 := by
      by_cases hlt : g2 < Y.heap.size
      · have hh : g = g2 := Option.some.inj (a6 hlt)
        omega
      · omega
    refine ⟨rfl, hsame2, g2, cap2, hg2, Or.inr ⟨by omega, bb, gt, ct, 0, 1, by omega, ?_, ⟨a1, rfl, by omega, rfl, a2, ⟨_, rfl, rfl⟩, a3, ?_⟩⟩⟩
    · have := a7 gt rfl
      omega
    · rw [hls]; exact a4
  · have hd := hP.setLine ((j : Int) + 1)
    have hcast : ((j : Int) + 1) = ((j + 1 : Nat) : Int) := by omega
    rw [hcast] at hd ⊢
    obtain ⟨hPY, hm⟩ := hd
    generalize (wr.setCell ⟨bp, 3, none⟩ (.int .i64 ((j + 1 : Nat) : Int)) : World) = Y at *
    have hOY : Opt Y { p2 pp g cap with lineno := ((j + 1 : Nat) : Int) } 5 false := (hOr.opt (p := { p2 pp g cap with lineno := ((j + 1 : Nat) : Int) }) rfl 5 (by omega)).keep hm (by show pp ≠ bp; omega)
    have hgoes : Goes l := by
      obtain ⟨l0, r0, hl0⟩ : ∃ l r, ls = l :: r := by
        cases hls : ls with
        | nil => exact absurd hls hT.ne
        | cons a r => exact ⟨a, r, rfl⟩
      refine hT.goes l0 r0 hl0 l ?_
      rw [hl0] at hj
      obtain ⟨i, rfl⟩ : ∃ i, j = i + 1 := ⟨j - 1, by omega⟩
      exact List.mem_of_getElem? (by simpa using hj)
    refine (addLine_cont bp g cap _ _ bb gt ct j (ls.take j) l nl Y hPY hs6 (blankAt_id hpos hfst) hOY (by show pp ≠ bp; omega) (by show pp ≠ g; omega) hj0 (by omega)
      (fun W hW => triesNo_cont bp g cap _ _ bb gt ct j _ l nl W hW rfl _ _ _ rfl rfl (by decide) hTx hgoes)).mono ?_
    rintro e w2 ⟨rfl, hm2, gt2, ct2, hP2, hgt2⟩
    rw [trimL_id hpos hfst, ← take_succ_get hj] at hP2
    have hYs := hm.size
    refine ⟨rfl, ?_, g, cap, hgw, Or.inr ⟨by omega, bb, gt2, ct2, ((j + 1 : Nat) : Int), ((j + 1 : Nat) : Int), hbb, ?_, ?_⟩⟩
    · exact (hsame.then hm (fun b hb x => by omega)).then hm2 (fun b hb x => by omega)
    · rcases hgt2 with h | h
      · rw [h]; exact hgt
      · omega
    · rw [twoOB_upd] at hP2
      exact hP2
end Go.Proofs.YtdnlfdppjfjncaaGreatDoor

/- (*Parser).parse of a paragraph of some lines: the walk. -/
namespace Go.Proofs.YtdnlfdppjfjncaaGreatDoor
open Go Go.RowKit Go.Proofs

theorem Rd.same_world {w wr wx : World} {bp pp : Nat} {v : Option Addr} {ls : List ByteArray} {j : Nat} (h : Rd w wr bp pp v ls j) (hm : Same wr wx) : Rd w wx bp pp v ls j := by
  obtain ⟨h1, g, cap, h2, ⟨h3, h4, h5⟩ | ⟨h3, bb, gt, ct, ea, eb, h4, h5, h6⟩⟩ := h
  · exact ⟨h1.trans hm, g, cap, h2, Or.inl ⟨h3, h4.same hm, ownsRow_keep h5 hm (fun _ _ x => x)⟩⟩
  · exact ⟨h1.trans hm, g, cap, h2, Or.inr ⟨h3, bb, gt, ct, ea, eb, h4, h5, h6.same hm⟩⟩

theorem joinT_pos {ls : List ByteArray} (hT : ParaText ls) : 0 < (joinT ls).size := by
  obtain ⟨l, r, rfl⟩ : ∃ l r, ls = l :: r := by
    cases ls with
    | nil => exact absurd rfl hT.ne
    | cons l r => exact ⟨l, r, rfl⟩
  exact (joinT_first (r := r) (hT.pos l (by simp))).1

theorem joinT_firstW {ls : List ByteArray} (hT : ParaText ls) (h : 0 < (joinT ls).size) : isW (joinT ls)[0] = false := by
  obtain ⟨l, r, rfl⟩ : ∃ l r, ls = l :: r := by
    cases ls with
    | nil => exact absurd rfl hT.ne
    | cons l r => exact ⟨l, r, rfl⟩
  have hp := hT.pos l (by simp)
  obtain ⟨h1, h2⟩ := joinT_first (r := r) hp
  rw [h2]
  exact hT.first l (by simp) hp

theorem joinT_not {ls : List ByteArray} {c : UInt8} (hc : c ≠ 10) (h : ∀ l ∈ ls, ∀ i (hi : i < l.size), l[i] ≠ c) : ∀ i (hi : i < (joinT ls).size), (joinT ls)[i] ≠ c := by
  intro i hi e
  rcases joinT_mem ls c (by rw [← e]; exact get_mem hi) with h' | ⟨l, hl, h'⟩
  · exact hc h'
  · obtain ⟨k, hk, hk2⟩ := mem_get h'
    exact h l hl k hk hk2

set_option maxRecDepth 100000 in
set_option maxHeartbeats 8000000 in
theorem parse_many (pp : Nat) (ls : List ByteArray) (w : World) (hT : ParaText ls) (all : List Pc) (hg : Plan (joinT ls) 0 0 all) (hO : Off w pp) :
    Calls Tryz.prog 51 #[.pointer (some ⟨pp, 0, none⟩), .string (joinT ls)] w fun e w' => ∃ bp rk c, e = .returned (.tuple #[.pointer (some ⟨rk, 0, none⟩), .bool c]) ∧ DocAt w w' bp rk pp (joinT ls) all := by
  have hpos := joinT_pos hT
  have hsm := hT.small
  have hs6 : (joinT ls).size ≤ 1000000 := by omega
  have i0 := idx1_none (joinT_not (c := 0) (by decide) hT.no0)
  have hfirstT := joinT_firstW hT hpos
  have hlastT := hT.last hpos
  go_enter Tryz.func51, Tryz.ntmps51
  go_wp2_with fail
  refine (zzContains_any (joinT ls) 0 _ hs6).mono ?_
  rintro e w' ⟨rfl, rfl⟩
  rw [i0]
  generalize hW : (World.alloc _ _ : World) = W
  have hm0 : Same w W := by subst hW; exact (Mods.refl _ w).alloc _
  have hp0 : PsAt W w.heap.size { p0 pp with depth := 0 } := by
    subst hW
    exact ⟨Tryz.zeroCells95.toList.drop 12, Blk.newAt _ _ rfl⟩
  clear hW
  generalize hbp : w.heap.size = bp at *
  have k5 := hp0.depth
  have f5 := hp0.fr 5
  have hbl := hp0.lt
  go_wp2_with fail
  generalize hX : (World.alloc (World.setCell _ _ _) _ : World) = X
  have hmX : Same w X := by
    subst hX
    exact (hm0.setCell (p := ⟨bp, 5, none⟩) (fun h => absurd h (Nat.not_lt.2 (Nat.le_of_eq hbp))) _).alloc _
  have hpX : PsAt X bp (p0 pp) := by
    subst hX
    exact PsAt.alloc (hp0.set 5 (.int .i64 (-1)) (p0 pp) rfl (by decide)) _
  clear hX
  refine (addBlock_any bp 0 0 none (p0 pp) _ (.pointer (some ⟨W.heap.size, 0, none⟩)) [] (-1) X hpX rfl (by omega) rfl rfl ⟨rfl, Or.inl ⟨rfl, rfl⟩⟩ (fun g h => by cases h) rfl).mono ?_
  rintro e w1 ⟨rfl, hm1, g, cap, hp1, hown1, hgl1⟩
  have hmw1 : Same w w1 := hmX.then hm1 (fun b hb h => by
    rcases h with h | h
    · omega
    · cases h)
  have hXs := hmX.size
  have hgw : w.heap.size ≤ g := by
    by_cases h : g < X.heap.size
    · cases hgl1 h
    · omega
  have hR0 : Rd w w1 bp pp (some ⟨W.heap.size, 0, none⟩) ls 0 := ⟨hmw1, g, cap, hgw, Or.inl ⟨rfl, hp1, hown1⟩⟩
  clear k5 f5 hbl hm0 hp0 hmX hpX hm1 hp1 hown1 hgl1 hmw1 hXs hgw
  go_wp2_with fail
  go_loopg [1] ls.length (fun k v1 wr => ∃ j : Nat, k = ls.length - j ∧ j ≤ ls.length ∧ v1 = .string (joinT (ls.drop j)) ∧ Rd w wr bp pp (some ⟨W.heap.size, 0, none⟩) ls j)
  case atStart => exact ⟨0, rfl, Nat.zero_le _, by rw [List.drop_zero], hR0⟩
  case round =>
    clear hR0
    obtain ⟨j, hk, hj, rfl, hR⟩ := hrel
    have HK := Lib.hid hk
    clear hk
    by_cases hlt : j < ls.length
    · obtain ⟨l, hl⟩ : ∃ l, ls[j]? = some l := ⟨_, List.getElem?_eq_getElem hlt⟩
      have hdrop : ls.drop j = l :: ls.drop (j + 1) := by
        rw [List.drop_eq_getElem_cons hlt]
        congr 1
        exact Option.some.inj ((List.getElem?_eq_getElem hlt).symm.trans hl)
      obtain ⟨k3, f3, l3⟩ := hR.line
      have hle := joinT_drop_le ls j
      have hdl : ∀ x ∈ ls.drop j, x ∈ ls := fun x hx => List.mem_of_mem_drop hx
      have i13 := idx1_none (joinT_not (ls := ls.drop j) (c := 13) (by decide) (fun x hx => hT.no13 x (hdl x hx)))
      have hlmem : l ∈ ls := List.mem_of_getElem? hl
      have hp := hT.pos l hlmem
      have h10l := hT.no10 l hlmem
      have hs7 : (joinT (ls.drop j)).size ≤ 1000000 := by omega
      have w3 : IntKind.i64.wrap ((j : Int) + 1) = (j : Int) + 1 := IntWalk.i64_in _ (by have := hT.count; omega)
      have STEP := Lib.hid (fun nl wx (hx : Same wr wx) => rd_step w wx bp pp _ ls j l nl hT (hR.same_world hx) hl hO (Nat.le_of_eq hbp))
      cases hr : ls.drop (j + 1) with
      | nil =>
        rw [hr] at hdrop
        rw [hdrop, joinT_one] at *
        have i10 := idx1_none h10l
        have e0 : l.toList.isEmpty = false := bs_ne hp
        have e0' : (!l.toList.isEmpty) = true := by rw [e0]; rfl
        clear hR hle hdl hlmem h10l hdrop
        go_wp2_with fail
        refine (zzIndex_any l 10 _ hs7).mono ?_
        rintro e w' ⟨rfl, rfl⟩
        rw [i10]
        go_wp2_with fail
        refine (zzIndex_any l 13 _ hs7).mono ?_
        rintro e w' ⟨rfl, rfl⟩
        rw [i13]
        go_wp2_with fail
        refine (STEP.out _ wr (Mods.refl _ wr)).mono ?_
        rintro e w2 ⟨rfl, hR2⟩
        go_wp2_with fail
        go_roundg (ls.length - (j + 1))
        case measure => have := HK.out; omega
        case rel => exact ⟨j + 1, rfl, hlt, by rw [hr]; rfl, hR2⟩
      | cons y r =>
        rw [hr] at hdrop
        rw [hdrop] at hle hdl i13 hs7
        rw [hdrop]
        have i10 : idx1 (joinT (l :: y :: r)) 10 = (l.size : Int) := idx_first h10l
        have hx1 := ext_first l y r
        have hx2 := ext_rest l y r
        have hsz := joinT_size2 l y r
        have hp2 : 0 < (joinT (l :: y :: r)).size := by omega
        have e0 : (joinT (l :: y :: r)).toList.isEmpty = false := bs_ne hp2
        have e0' : (!(joinT (l :: y :: r)).toList.isEmpty) = true := by rw [e0]; rfl
        have v1 : (l.size : Int) + 1 ≤ (joinT (l :: y :: r)).size := by omega
        have v2 : (l.size : Int) ≤ (joinT (l :: y :: r)).size := by omega
        have v3 : ¬ ((l.size : Int) < 0) := by omega
        have v4 : (0 : Int) ≤ l.size := by omega
        have v5 : IntKind.i64.wrap ((l.size : Int) + 1) = (l.size : Int) + 1 := IntWalk.i64_in _ (by omega)
        have v6 : ((l.size : Int) + 1).toNat = l.size + 1 := by omega
        have v7 : (0 : Int) ≤ (l.size : Int) + 1 := by omega
        have HX2 := Lib.hid hx2
        generalize hJ : joinT (l :: y :: r) = J at *
        clear hR hle hdl hlmem h10l hdrop hJ hsz
        go_wp2_with fail
        refine (zzIndex_any J 10 _ hs7).mono ?_
        rintro e w' ⟨rfl, rfl⟩
        rw [i10]
        go_wp2_with fail
        refine (zzIndex_any J 13 _ hs7).mono ?_
        rintro e w' ⟨rfl, rfl⟩
        rw [i13]
        go_wp2_with fail
        first | go_quiet (fail) | skip
        go_wp2_with fail
        refine (STEP.out 10 _ ((Mods.refl _ wr).drewN nq)).mono ?_
        rintro e w2 ⟨rfl, hR2⟩
        go_wp2_with fail
        go_roundg (ls.length - (j + 1))
        case measure => have := HK.out; omega
        case rel => exact ⟨j + 1, rfl, hlt, by rw [hr, ← HX2.out], hR2⟩
    · have hjl : j = ls.length := by omega
      subst hjl
      rw [List.drop_length]
      obtain ⟨hmw2, g, cap, hgw, ⟨h0, _, _⟩ | ⟨_, bb, gt, ct, ea, eb, hbb, hgt, hP⟩⟩ := hR
      · exact absurd (List.length_eq_zero_iff.1 h0) hT.ne
      rw [List.take_length] at hP
      have e0 : (joinT ([] : List ByteArray)).toList.isEmpty = true := by simp [joinT, Lib.join, ByteArray.toList_eq]
      have e0' : (!(joinT ([] : List ByteArray)).toList.isEmpty) = false := by rw [e0]; rfl
      go_wp2_with fail
      refine (closed_many bp g cap pp ls.length gt ct bb (some ⟨W.heap.size, 0, none⟩) ea eb ls wr hT rfl hP).mono ?_
      rintro e w3 ⟨rfl, hTw⟩
      have hmw3 : Same w w3 := hmw2.then hTw.mods (fun b hb h => by omega)
      have hrs := hmw2.size
      obtain ⟨rk, pk, tb, tg, tc, ig, ic, x, y, x2, y2, hrk, hpk, htb, hRb, hPk, hTb, hps, htx, hin⟩ := hTw.ex
      clear hTw hP hmw2
      have k11 := hps.texts
      go_wp2_with fail
      go_loopg [83] 1 (fun k v83 wr2 => (k = 1 ∧ v83 = .int .i64 0 ∧ wr2 = w3) ∨ (k = 0 ∧ v83 = .int .i64 1 ∧ DocAt w wr2 bp rk pp (joinT ls) all))
      case atStart => exact Or.inl ⟨rfl, rfl, rfl⟩
      case round =>
        rcases hrel with ⟨rfl, rfl, rfl⟩ | ⟨rfl, rfl, hDA⟩
        · obtain ⟨_, _, he, _, _, hc⟩ := ownsRow_form htx (by omega)
          cases he
          have t0 := hc 0 _ rfl
          have r3 := hTb.cell 3
          go_wp2_with fail
          have hOw : Opt wr _ 3 false := (hO.same hmw3).opt (p := { p2 pp g cap with lineno := (ls.length : Nat), texts := .slice (some ⟨tg, 0, none⟩) 1 tc, stack := .slice (some ⟨g, 0, none⟩) 0 cap, root := .pointer (some ⟨rk, 0, none⟩) }) rfl 3 (by omega)
          refine (inline_any bp _ (joinT ls) wr hps hsm hpos all hg hOw (by have := hO.lt; show pp ≠ bp; omega) (trimSpaceTab_id (joinT ls) wr hs6 hpos hfirstT hlastT)).mono ?_
          rintro e w4 ⟨gl, n, lc, xs, rfl, hn0, hn1, c4, hH⟩
          have hTne : tb ≠ bp := by
            obtain ⟨tail, htl⟩ := id hps
            exact hTb.ne_of_type htl (by decide)
          have hT4 := hTb.keep1 hH.mods hTne
          have c2 : w4.cell? ⟨tb, 2, none⟩ = some (.slice none 0 0) := hT4.cell 2
          have f2 := hT4.fr 2
          have l2 := hT4.lt
          go_wp2_with fail
          go_roundg 0
          case measure => omega
          case rel => exact Or.inr ⟨rfl, rfl, docAt_mk hmw3 (by omega) (by omega) hps hRb hPk hTb hin hH hn0 hn1 rfl⟩
        · have hoff := (hO.same hDA.mods).opt (p := p0 pp) rfl 2 (by omega)
          have o2 : wr.cell? ⟨pp, 2, none⟩ = some (.bool false) := hoff.cell
          obtain ⟨q, hq, hq1⟩ := id hDA.ps
          have k1 := hq.root
          have k6 := hq.corner
          rw [hq1] at k1
          go_wp2_with fail
          go_quiet (fail)
          go_wp2_with fail
          go_ret2
          exact ⟨bp, rk, _, rfl, hDA.same ((Mods.refl _ wr).drewN nq)⟩
end Go.Proofs.YtdnlfdppjfjncaaGreatDoor

/- HTML of a paragraph of some lines. -/
namespace Go.Proofs.YtdnlfdppjfjncaaGreatDoor
open Go Go.RowKit Go.Proofs

theorem parser_Parse_many (pp : Nat) (ls : List ByteArray) (w : World) (hT : ParaText ls) (all : List Pc) (hg : Plan (joinT ls) 0 0 all) (hO : Off w pp) :
    Calls Tryz.prog 39 #[.pointer (some ⟨pp, 0, none⟩), .string (joinT ls)] w fun e w' => ∃ bp rk, e = .returned (.pointer (some ⟨rk, 0, none⟩)) ∧ DocAt w w' bp rk pp (joinT ls) all := by
  go_enter Tryz.func39, Tryz.ntmps39
  go_wp2_with fail
  refine (parse_many pp ls w hT all hg hO).mono ?_
  rintro e w' ⟨bp, rk, c, rfl, hD⟩
  go_wp2_with fail
  go_ret
  exact ⟨bp, rk, rfl, hD⟩

theorem impl_HTML_many (ls : List ByteArray) (w : World) (hT : ParaText ls) (all : List Pc) (hg : Plan (joinT ls) 0 0 all)
    (hlim : ∀ i, ((([] : List UInt8) ++ pOpen) ++ ((all).take i).flatMap outPc).length ≤ 10000000) (hsz : ∀ t, Pc.plain t ∈ all ∨ Pc.esc t ∈ all ∨ Pc.tag t ∈ all → t.size ≤ 1000000) (hau : ∀ t u, Pc.auto t u ∉ all) :
    Calls Tryz.prog 17 #[.agg #[.bool false, .bool false, .bool false, .bool false, .bool false, .bool false, .bool false, .bool false, .bool false, .bool false], .string (joinT ls)] w fun e w' => e = .returned (.string ⟨(pOpen ++ (all).flatMap outPc ++ pClose).toArray⟩) ∧ Same w w' :=
  impl_HTML_of (joinT ls) w hT.small all (fun pp w1 hO => parser_Parse_many pp ls w1 hT all hg hO) hlim hsz (fun t u h => absurd h (hau t u))
end Go.Proofs.YtdnlfdppjfjncaaGreatDoor

/- A plan for a text with signs behind backslashes and line feeds; what its pieces print. -/
namespace Go.Proofs.YtdnlfdppjfjncaaGreatDoor
open Go Go.RowKit Go.Proofs

/-- The pieces are no longer than the text, and none is a link. -/
structure Fit (s : ByteArray) (all : List Pc) : Prop where
  sz : ∀ u, Pc.plain u ∈ all ∨ Pc.esc u ∈ all ∨ Pc.tag u ∈ all → u.size ≤ s.size
  au : ∀ t u, Pc.auto t u ∉ all

theorem Fit.nil (s : ByteArray) : Fit s [] := ⟨fun u h => by simp at h, fun _ _ h => by simp at h⟩
theorem Fit.app {s : ByteArray} {a b : List Pc} (h1 : Fit s a) (h2 : Fit s b) : Fit s (a ++ b) := by
  refine ⟨fun u h => ?_, fun t u h => ?_⟩
  · simp only [List.mem_append] at h
    rcases h with (h | h) | (h | h) | (h | h)
    · exact h1.sz u (Or.inl h)
    · exact h2.sz u (Or.inl h)
    · exact h1.sz u (Or.inr (Or.inl h))
    · exact h2.sz u (Or.inr (Or.inl h))
    · exact h1.sz u (Or.inr (Or.inr h))
    · exact h2.sz u (Or.inr (Or.inr h))
  · rcases List.mem_append.1 h with h | h
    · exact h1.au t u h
    · exact h2.au t u h
theorem Fit.cut (s : ByteArray) (e k : Nat) : Fit s (if e < k then [.plain (s.extract e k)] else []) := by
  split
  · refine ⟨fun u h => ?_, fun _ _ h => by simp at h⟩
    have : u = s.extract e k := by simpa using h
    subst this
    rw [ByteArray.size_extract]; omega
  · exact Fit.nil s
theorem Fit.esc (s : ByteArray) (i j : Nat) : Fit s [.esc (s.extract i j)] := by
  refine ⟨fun u h => ?_, fun _ _ h => by simp at h⟩
  have : u = s.extract i j := by simpa using h
  subst this
  rw [ByteArray.size_extract]; omega
theorem Fit.soft (s : ByteArray) : Fit s [.soft] := ⟨fun u h => by simp at h, fun _ _ h => by simp at h⟩

theorem cut_out (s : ByteArray) {e k : Nat} (he : e ≤ k) : (if e < k then [Pc.plain (s.extract e k)] else []).flatMap outPc = (s.extract e k).data.toList.flatMap escB := by
  by_cases hlt : e < k
  · rw [if_pos hlt]
    simp only [List.flatMap_cons, List.flatMap_nil, out_plain, List.append_nil]
  · rw [if_neg hlt]
    have : e = k := by omega
    rw [this, ext_none]
    rfl

/-- No white space stands beside a line feed. -/
def NoW (s : ByteArray) : Prop := ∀ k (h : k < s.size), s[k] = 10 → 0 < k ∧ ∃ h' : k + 1 < s.size, isW (s[k - 1]'(by omega)) = false ∧ isW s[k + 1] = false

theorem plan_sl (s : ByteArray) (hs : s.size ≤ 1000000) (hW : NoW s) : ∀ (l : List UInt8) (k e : Nat), e ≤ k → k ≤ s.size → (∀ c ∈ l, Pr c ∨ c = 10) → from_ s k = slL l →
    ∃ all, Plan s k e all ∧ all.flatMap outPc = (s.extract e k).data.toList.flatMap escB ++ l.flatMap escB ∧ Fit s all
  | [], k, e, he, hk, _, h => by
    have hke := from_nil hk h
    subst hke
    exact ⟨_, Plan.fin e, by rw [cut_out s he]; simp, Fit.cut s e s.size⟩
  | c :: l, k, e, he, hk, hp, h => by
    have hp2 : ∀ x ∈ l, Pr x ∨ x = 10 := fun x hx => hp x (List.mem_cons_of_mem _ hx)
    rw [sl_cons] at h
    unfold slB at h
    by_cases hc : punct c = true
    · rw [if_pos hc] at h
      obtain ⟨h1, e1, h2⟩ := from_cons h
      obtain ⟨h3, e3, h4⟩ := from_cons h2
      obtain ⟨r, r1, r2, r3⟩ := plan_sl s hs hW l (k + 2) (k + 2) (Nat.le_refl _) (by omega) hp2 h4
      refine ⟨_, Plan.piece h1 _ (Or.inl ⟨e1, rfl⟩) _ k (k + 2) he (Nat.le_refl _) (by omega) (by omega) (esc_call s k h3 hs (by rw [e3]; exact hc)) (fun _ h => by cases h) r1, ?_, ?_⟩
      · have hx : (s.extract (k + 1) (k + 2)).data.toList = [c] := by rw [ext1 s (k + 1) h3, e3]
        rw [List.flatMap_append, cut_out s he, List.flatMap_cons, r2, ext_none, out_esc, hx]
        simp only [List.flatMap_cons, List.flatMap_nil, List.append_nil, List.nil_append]
      · exact (Fit.cut s e k).app ((Fit.esc s (k + 1) (k + 2)).app r3)
    · rw [if_neg hc] at h
      obtain ⟨h1, e1, h2⟩ := from_cons h
      by_cases h10 : c = 10
      · obtain ⟨w1, w2, w3, w4⟩ := hW k h1 (by rw [e1]; exact h10)
        obtain ⟨r, r1, r2, r3⟩ := plan_sl s hs hW l (k + 1) (k + 1) (Nat.le_refl _) (by omega) hp2 h2
        refine ⟨_, Plan.piece h1 _ (Or.inr (Or.inr ⟨by rw [e1]; exact h10, rfl⟩)) _ k (k + 1) he (Nat.le_refl _) (by omega) (by omega) (soft_call s k w1 w2 hs w3 w4) (fun _ h => by cases h) r1, ?_, ?_⟩
        · rw [List.flatMap_append, cut_out s he, List.flatMap_cons, r2, ext_none, List.flatMap_cons, h10]
          rfl
        · exact (Fit.cut s e k).app ((Fit.soft s).app r3)
      · have hpr : Pr c := (hp c List.mem_cons_self).resolve_right h10
        obtain ⟨r, r1, r2, r3⟩ := plan_sl s hs hW l (k + 1) e (by omega) (by omega) hp2 h2
        refine ⟨r, Plan.dull h1 (by rw [e1]; exact dull_of hpr (by simpa using hc)) r1, ?_, r3⟩
        rw [r2, ext_snoc he h1, e1]
        simp only [List.flatMap_append, List.flatMap_cons, List.flatMap_nil, List.append_nil, List.append_assoc]
end Go.Proofs.YtdnlfdppjfjncaaGreatDoor

/- The lines of a text, and the longest run of a byte in it: plain facts, no program. -/
namespace Go.Proofs.YtdnlfdppjfjncaaGreatDoor
open Go Go.RowKit Go.Proofs

/-- The lines of a text. -/
def cut : List UInt8 → List (List UInt8)
  | [] => [[]]
  | c :: r => if c = 10 then [] :: cut r else match cut r with
    | [] => [[c]]
    | x :: t => (c :: x) :: t

theorem cut_cons (l : List UInt8) : ∃ x t, cut l = x :: t := by
  cases l with
  | nil => exact ⟨_, _, rfl⟩
  | cons c r =>
    unfold cut
    split
    · exact ⟨_, _, rfl⟩
    · split <;> exact ⟨_, _, rfl⟩

theorem cut_lf (r : List UInt8) : cut (10 :: r) = [] :: cut r := by rw [cut, if_pos rfl]
theorem cut_other {c : UInt8} (h : c ≠ 10) {r x : List UInt8} {t : List (List UInt8)} (hr : cut r = x :: t) : cut (c :: r) = (c :: x) :: t := by
  rw [cut, if_neg h, hr]

theorem cut_no10 : ∀ (s l : List UInt8), l ∈ cut s → (10 : UInt8) ∉ l
  | [], l, h => by simp [cut] at h; subst h; simp
  | c :: r, l, h => by
    by_cases hc : c = 10
    · subst hc
      rw [cut_lf] at h
      rcases List.mem_cons.1 h with h | h
      · subst h; simp
      · exact cut_no10 r l h
    · obtain ⟨x, t, hr⟩ := cut_cons r
      rw [cut_other hc hr] at h
      rcases List.mem_cons.1 h with h | h
      · subst h
        have := cut_no10 r x (by rw [hr]; simp)
        simp only [List.mem_cons, not_or]
        exact ⟨Ne.symm hc, this⟩
      · exact cut_no10 r l (by rw [hr]; exact List.mem_cons_of_mem _ h)

theorem cut_join : ∀ s : List UInt8, (cut s).flatMap (· ++ [10]) = s ++ [10]
  | [] => by simp [cut]
  | c :: r => by
    have ih := cut_join r
    by_cases hc : c = 10
    · subst hc
      rw [cut_lf, List.flatMap_cons, ih]
      rfl
    · obtain ⟨x, t, hr⟩ := cut_cons r
      rw [cut_other hc hr]
      rw [hr, List.flatMap_cons] at ih
      rw [List.flatMap_cons, List.cons_append, List.cons_append, ih]
      rfl

theorem cut_head : ∀ (s x : List UInt8) (t : List (List UInt8)), cut s = x :: t → ∃ y, s = x ++ y
  | [], x, t, h => by simp [cut] at h; exact ⟨[], by rw [h.1]; rfl⟩
  | c :: r, x, t, h => by
    by_cases hc : c = 10
    · subst hc
      rw [cut_lf] at h
      have := (List.cons.inj h).1
      subst this
      exact ⟨10 :: r, rfl⟩
    · obtain ⟨x', t', hr⟩ := cut_cons r
      rw [cut_other hc hr] at h
      obtain ⟨y, hy⟩ := cut_head r x' t' hr
      have := (List.cons.inj h).1
      subst this
      exact ⟨y, by rw [hy]; rfl⟩

theorem cut_infix : ∀ (s l : List UInt8), l ∈ cut s → ∃ x y, s = x ++ l ++ y
  | [], l, h => by simp [cut] at h; subst h; exact ⟨[], [], rfl⟩
  | c :: r, l, h => by
    by_cases hc : c = 10
    · subst hc
      rw [cut_lf] at h
      rcases List.mem_cons.1 h with h | h
      · subst h; exact ⟨[], 10 :: r, rfl⟩
      · obtain ⟨x, y, hxy⟩ := cut_infix r l h
        exact ⟨10 :: x, y, by rw [hxy]; rfl⟩
    · obtain ⟨x', t', hr⟩ := cut_cons r
      rw [cut_other hc hr] at h
      rcases List.mem_cons.1 h with h | h
      · subst h
        obtain ⟨y, hy⟩ := cut_head r x' t' hr
        exact ⟨[], y, by rw [hy]; rfl⟩
      · obtain ⟨x, y, hxy⟩ := cut_infix r l (by rw [hr]; exact List.mem_cons_of_mem _ h)
        exact ⟨c :: x, y, by rw [hxy]; rfl⟩

theorem cut_len : ∀ s : List UInt8, (cut s).length ≤ s.length + 1
  | [] => by simp [cut]
  | c :: r => by
    have ih := cut_len r
    by_cases hc : c = 10
    · subst hc; rw [cut_lf]; simp; omega
    · obtain ⟨x, t, hr⟩ := cut_cons r
      rw [cut_other hc hr]
      rw [hr] at ih
      simp at ih ⊢
      omega

/-- The longest run of c, if the best so far is b and n of them stand right ahead. -/
def lon (c : UInt8) : List UInt8 → Nat → Nat → Nat
  | [], b, _ => b
  | x :: r, b, n => lon c r (max b (if x = c then n + 1 else 0)) (if x = c then n + 1 else 0)

theorem lon_ge (c : UInt8) : ∀ (l : List UInt8) (b n : Nat), b ≤ lon c l b n
  | [], b, n => Nat.le_refl _
  | x :: r, b, n => Nat.le_trans (Nat.le_max_left _ _) (lon_ge c r _ _)

theorem lon_app (c : UInt8) : ∀ (a t : List UInt8) (b n : Nat), ∃ b' n', lon c (a ++ t) b n = lon c t b' n'
  | [], t, b, n => ⟨b, n, rfl⟩
  | x :: a, t, b, n => lon_app c a t _ _

theorem lon_run (c : UInt8) : ∀ (m : Nat) (t : List UInt8) (b n : Nat), n ≤ b → n + m ≤ lon c (List.replicate m c ++ t) b n
  | 0, t, b, n, h => Nat.le_trans h (lon_ge c t b n)
  | m + 1, t, b, n, h => by
    rw [List.replicate_succ, List.cons_append, lon, if_pos rfl]
    have := lon_run c m t (max b (n + 1)) (n + 1) (Nat.le_max_right _ _)
    omega

theorem lon_infix (c : UInt8) (a t : List UInt8) (m : Nat) : m ≤ lon c (a ++ (List.replicate m c ++ t)) 0 0 := by
  obtain ⟨b', n', h⟩ := lon_app c a (List.replicate m c ++ t) 0 0
  rw [h]
  cases m with
  | zero => exact Nat.zero_le _
  | succ m =>
    rw [List.replicate_succ, List.cons_append, lon, if_pos rfl]
    have := lon_run c m t (max b' (n' + 1)) (n' + 1) (Nat.le_max_right _ _)
    omega

theorem lon_len (c : UInt8) : ∀ (l : List UInt8) (b n : Nat), n ≤ b → lon c l b n ≤ b + l.length
  | [], b, n, _ => by simp [lon]
  | x :: r, b, n, h => by
    rw [lon, List.length_cons]
    split
    · have := lon_len c r (max b (n + 1)) (n + 1) (Nat.le_max_right _ _)
      omega
    · have := lon_len c r (max b 0) 0 (Nat.zero_le _)
      omega

/-- Lines with a line feed each. -/
def endT (ls : List ByteArray) : ByteArray := ⟨(ls.flatMap (fun l => l.data.toList ++ [10])).toArray⟩
theorem endT_list (ls : List ByteArray) : (endT ls).data.toList = ls.flatMap (fun l => l.data.toList ++ [10]) := by simp [endT]
theorem endT_cons (l : ByteArray) (r : List ByteArray) : (endT (l :: r)).data.toList = l.data.toList ++ 10 :: (endT r).data.toList := by
  rw [endT_list, endT_list, List.flatMap_cons, List.append_assoc]; rfl
theorem endT_size (l : ByteArray) (r : List ByteArray) : (endT (l :: r)).size = l.size + 1 + (endT r).size := cut_lt (endT_cons l r)
theorem endT_nil : endT [] = ⟨#[]⟩ := rfl
theorem endT_drop_le : ∀ (ls : List ByteArray) (j : Nat), (endT (ls.drop j)).size ≤ (endT ls).size
  | ls, 0 => Nat.le_refl _
  | [], j + 1 => by simp
  | x :: r, j + 1 => by
    have := endT_drop_le r j
    rw [endT_size, List.drop_succ_cons]
    omega
theorem endT_mem : ∀ (ls : List ByteArray) (c : UInt8), c ∈ (endT ls).data.toList → c = 10 ∨ ∃ l ∈ ls, c ∈ l.data.toList := by
  intro ls c h
  rw [endT_list, List.mem_flatMap] at h
  obtain ⟨l, hl, h⟩ := h
  rcases List.mem_append.1 h with h | h
  · exact Or.inr ⟨l, hl, h⟩
  · exact Or.inl (by simpa using h)

theorem endT_feed (ls : List ByteArray) (hs : (endT ls).size ≤ 900000) (h10 : ∀ l ∈ ls, (10 : UInt8) ∉ l.data.toList) (h13 : ∀ l ∈ ls, (13 : UInt8) ∉ l.data.toList) (h0 : ∀ l ∈ ls, (0 : UInt8) ∉ l.data.toList) : Feed (fun j => endT (ls.drop j)) ls where
  done := by show endT (ls.drop ls.length) = _; rw [List.drop_length]; rfl
  step := by
    intro j l hl
    have hlt : j < ls.length := (List.getElem?_eq_some_iff.1 hl).1
    have hdrop : ls.drop j = l :: ls.drop (j + 1) := by
      rw [List.drop_eq_getElem_cons hlt]
      congr 1
      exact Option.some.inj ((List.getElem?_eq_getElem hlt).symm.trans hl)
    left
    show (endT (ls.drop j)).data.toList = _
    rw [hdrop, endT_cons]
  no10 := fun l hl i hi e => h10 l hl (by rw [← e]; exact get_mem hi)
  no13 := by
    intro j i hi e
    rcases endT_mem _ 13 (by rw [← e]; exact get_mem hi) with h | ⟨l, hl, h⟩
    · exact absurd h (by decide)
    · exact h13 l (List.mem_of_mem_drop hl) h
  no0 := by
    intro i hi e
    rcases endT_mem _ 0 (by rw [← e]; exact get_mem hi) with h | ⟨l, hl, h⟩
    · exact absurd h (by decide)
    · exact h0 l (List.mem_of_mem_drop hl) h
  small := fun j => Nat.le_trans (endT_drop_le ls j) hs
  count := by
    have : ∀ ls : List ByteArray, ls.length ≤ (endT ls).size := by
      intro ls
      induction ls with
      | nil => exact Nat.zero_le _
      | cons l r ih => rw [endT_size, List.length_cons]; omega
    exact Nat.le_trans (this ls) hs
end Go.Proofs.YtdnlfdppjfjncaaGreatDoor

/- Lines of letters behind signs >: the plain facts. -/
namespace Go.Proofs.YtdnlfdppjfjncaaGreatDoor
open Go Go.RowKit Go.Proofs
open G (FromL Wd)

/-- k signs > with a space each. -/
def gts : Nat → List UInt8
  | 0 => []
  | k + 1 => 62 :: 32 :: gts k
theorem gts_len : ∀ k, (gts k).length = 2 * k
  | 0 => rfl
  | k + 1 => by simp [gts, gts_len k]; omega
theorem gts_mem : ∀ k, ∀ c ∈ gts k, c = 62 ∨ c = 32
  | 0, c, h => by simp [gts] at h
  | k + 1, c, h => by
    simp only [gts, List.mem_cons] at h
    rcases h with h | h | h
    · exact Or.inl h
    · exact Or.inr h
    · exact gts_mem k c h
theorem gts_drop : ∀ (k j : Nat), j ≤ k → (gts k).drop (2 * j) = gts (k - j)
  | k, 0, _ => rfl
  | 0, j + 1, h => by omega
  | k + 1, j + 1, h => by
    rw [show 2 * (j + 1) = 2 * j + 1 + 1 by omega]
    simp only [gts, List.drop_succ_cons]
    rw [gts_drop k j (by omega), show k + 1 - (j + 1) = k - j by omega]

/-- Letters a to h and spaces, the first and the last are letters. -/
structure Ltrs (s : ByteArray) : Prop where
  pos : 0 < s.size
  le : s.size ≤ 40
  all : ∀ c ∈ s.data.toList, c = 32 ∨ (97 ≤ c.toNat ∧ c.toNat ≤ 104)
  first : s[0] ≠ 32
  last : s[s.size - 1] ≠ 32

def lzT (k : Nat) (s : ByteArray) : ByteArray := strL (gts k ++ s.data.toList)
theorem lzT_list (k : Nat) (s : ByteArray) : (lzT k s).data.toList = gts k ++ s.data.toList := by simp [lzT, strL]
theorem lzT_size (k : Nat) (s : ByteArray) : (lzT k s).size = 2 * k + s.size := by
  rw [size_list, lzT_list, List.length_append, gts_len, size_list]
theorem lzT_from (k : Nat) (s : ByteArray) (j : Nat) (h : j ≤ k) : FromL (lzT k s) (2 * j) (gts (k - j) ++ s.data.toList) := by
  unfold FromL
  rw [lzT_list, List.drop_append_of_le_length (by rw [gts_len]; omega), gts_drop k j h]
theorem lst_cons {s : ByteArray} (h : 0 < s.size) : ∃ r, s.data.toList = s[0] :: r := by
  refine ⟨s.data.toList.drop 1, ?_⟩
  have := G.drop_c s 0 h
  rw [List.drop_zero] at this
  exact this
theorem ltr0 {s : ByteArray} (h : Ltrs s) : 97 ≤ (s[0]'h.pos).toNat ∧ (s[0]'h.pos).toNat ≤ 104 := by
  have hp := h.pos
  rcases h.all _ (get_mem hp) with h1 | h1
  · exact absurd h1 h.first
  · exact h1
theorem lz_first {k : Nat} {s : ByteArray} (h : Ltrs s) (j : Nat) (hj : j ≤ k) : ∃ hi : 2 * j < (lzT k s).size, isW (lzT k s)[2 * j] = false := by
  have hF := lzT_from k s j hj
  have hp := h.pos
  by_cases he : j = k
  · subst he
    rw [Nat.sub_self] at hF
    obtain ⟨r, hr⟩ := lst_cons hp
    simp only [gts, List.nil_append] at hF
    rw [hr] at hF
    refine ⟨hF.lt, ?_⟩
    rw [hF.hd hF.lt]
    obtain ⟨h1, h2⟩ := ltr0 h
    unfold isW
    have a1 : s[0] ≠ 32 := h.first
    have a2 : s[0] ≠ 9 := by intro e; rw [e] at h1; revert h1; decide
    simp [a1, a2]
  · obtain ⟨i, hi⟩ : ∃ i, k - j = i + 1 := ⟨k - j - 1, by omega⟩
    rw [hi] at hF
    simp only [gts, List.cons_append] at hF
    refine ⟨hF.lt, ?_⟩
    rw [hF.hd hF.lt]
    decide
theorem blankAt_no {t : ByteArray} {i : Nat} (hi : i < t.size) (h : isW t[i] = false) : blankAt t i = false := by
  have hz : 0 < (t.extract i t.size).size := by rw [ByteArray.size_extract]; omega
  have h0 : (t.extract i t.size)[0] = t[i] := by simp [ByteArray.getElem_extract]
  unfold blankAt
  have hid := trimL_id hz (by rw [h0]; exact h)
  rw [ext_all] at hid
  rw [hid]
  exact bs_ne hz

theorem lz_byte {k : Nat} {s : ByteArray} (h : Ltrs s) : ∀ c ∈ (lzT k s).data.toList, c = 62 ∨ c = 32 ∨ (97 ≤ c.toNat ∧ c.toNat ≤ 104) := by
  intro c hc
  rw [lzT_list] at hc
  rcases List.mem_append.1 hc with hc | hc
  · rcases gts_mem k c hc with h1 | h1
    · exact Or.inl h1
    · exact Or.inr (Or.inl h1)
  · exact Or.inr (h.all c hc)
theorem lz_no {k : Nat} {s : ByteArray} (h : Ltrs s) (b : UInt8) (hb : b.toNat < 32) : b ∉ (lzT k s).data.toList := by
  intro hm
  rcases lz_byte h b hm with h1 | h1 | h1
  · subst h1; revert hb; decide
  · subst h1; revert hb; decide
  · omega

theorem lz_line {k : Nat} {s : ByteArray} (h : Ltrs s) (hk : k ≤ 50) : QLine (lzT k s) k := by
  have hp := h.pos
  have hle := h.le
  have hsz := lzT_size k s
  obtain ⟨h1, h2⟩ := ltr0 h
  have hF := lzT_from k s k (Nat.le_refl _)
  rw [Nat.sub_self] at hF
  simp only [gts, List.nil_append] at hF
  obtain ⟨r, hr⟩ := lst_cons hp
  rw [hr] at hF
  have hlt := hF.lt
  have hat : (lzT k s)[2 * k] = s[0] := hF.hd hlt
  have hp3 : p3 (lzT k s) (2 * k) = 2 * k := by
    unfold p3 lead
    rw [dif_pos hlt, if_neg (by rw [hat]; exact h.first)]
    exact Nat.add_zero _
  have ha : at0 (lzT k s) (p3 (lzT k s) (2 * k)) = s[0] := by rw [hp3, at0_eq hlt, hat]
  have hne : ∀ n : Nat, n < 97 ∨ 104 < n → ((s[0].toNat : Int) ≠ n) := by intro n hn; omega
  constructor
  · omega
  · exact ⟨by omega, fun j hj e => lz_no (k := k) h 9 (by decide) (by rw [← e]; exact get_mem hj)⟩
  · omega
  · intro j hj
    have hG := lzT_from k s j (by omega)
    obtain ⟨i, hi⟩ : ∃ i, k - j = i + 1 := ⟨k - j - 1, by omega⟩
    rw [hi] at hG
    simp only [gts, List.cons_append] at hG
    have g1 := hG.lt
    have g2 := hG.tl.lt
    exact ⟨by rw [at0_eq g1, hG.hd g1], by rw [at0_eq g2, hG.tl.hd g2]⟩
  · constructor
    · rw [ha]; exact hne 62 (by omega)
    · rw [ha]; exact hne 35 (by omega)
    · rw [ha]; exact hne 45 (by omega)
    · rw [ha]; exact hne 95 (by omega)
    · rw [ha]; exact hne 42 (by omega)
    · rw [ha]; exact hne 60 (by omega)
    · rw [ha]; exact hne 96 (by omega)
    · rw [ha]; exact hne 126 (by omega)
    · rw [ha]; exact h.first
    · refine Or.inl ?_
      rw [ha]
      intro c hc
      simp only [List.mem_cons, List.not_mem_nil, or_false] at hc
      omega
  · intro j hj
    obtain ⟨hi, hw⟩ := lz_first (k := k) h j hj
    exact blankAt_no hi hw
  · rw [ha]; exact hne 61 (by omega)

theorem lz_rest {k : Nat} {s : ByteArray} (h : Ltrs s) : trimL ((lzT k s).extract (2 * k) (lzT k s).size) = s := by
  have hF := lzT_from k s k (Nat.le_refl _)
  rw [Nat.sub_self] at hF
  simp only [gts, List.nil_append] at hF
  have e : (lzT k s).extract (2 * k) (lzT k s).size = s := by
    apply ByteArray.ext
    apply Array.ext'
    rw [Lib.extract_data, show (lzT k s).data.toList.drop (2 * k) = _ from hF, lzT_size, show 2 * k + s.size - 2 * k = s.size by omega, size_list, List.take_length]
  rw [e]
  have hw : isW (s[0]'h.pos) = false := by
    obtain ⟨h1, h2⟩ := ltr0 h
    have a1 := h.first
    have a2 : s[0]'h.pos ≠ 9 := by intro e; rw [e] at h1; revert h1; decide
    unfold isW
    simp [a1, a2]
  have := trimL_id h.pos hw
  rwa [ext_all] at this

theorem zip_rest : ∀ (ks : List Nat) (ss : List ByteArray), ks.length = ss.length → ∀ (j : Nat) (l : ByteArray), (List.zipWith lzT ks ss)[j]? = some l → ∃ k s, ks[j]? = some k ∧ ss[j]? = some s ∧ l = lzT k s
  | ks, ss, _, j, l, h => by
    rw [List.getElem?_zipWith] at h
    cases h1 : ks[j]? with
    | none => rw [h1] at h; cases h
    | some k =>
      cases h2 : ss[j]? with
      | none => rw [h1, h2] at h; cases h
      | some s =>
        rw [h1, h2] at h
        exact ⟨k, s, rfl, rfl, (Option.some.inj h).symm⟩

/-- The lines of letters, the signs > ahead of each: the first n, the others no more. -/
structure LzIn (n : Nat) (ks : List Nat) (ss : List ByteArray) : Prop where
  len : ks.length = ss.length
  pos : 0 < ss.length
  le : ss.length ≤ 20
  n9 : n ≤ 9
  first : ks[0]? = some n
  all : ∀ k ∈ ks, k ≤ n
  ltr : ∀ s ∈ ss, Ltrs s

theorem joinT_small : ∀ (ss : List ByteArray), (∀ s ∈ ss, s.size ≤ 40) → (joinT ss).size ≤ 41 * ss.length
  | [], _ => by rw [size_list, joinT_list]; simp [Lib.join_nil]
  | [s], h => by rw [joinT_one]; have := h s (by simp); simp; omega
  | s :: y :: r, h => by
    rw [joinT_size2]
    have h1 := joinT_small (y :: r) (fun x hx => h x (List.mem_cons_of_mem _ hx))
    have h2 := h s (by simp)
    simp only [List.length_cons] at *
    omega

theorem ltrs_isW {s : ByteArray} (h : Ltrs s) (i : Nat) (hi : i < s.size) (hc : s[i] ≠ 32) : isW s[i] = false := by
  rcases h.all _ (get_mem hi) with h1 | h1
  · exact absurd h1 hc
  · have a2 : s[i] ≠ 9 := by intro e; rw [e] at h1; revert h1; decide
    unfold isW
    simp [hc, a2]

theorem join_first {ss : List ByteArray} (hp : 0 < ss.length) (h : ∀ s ∈ ss, Ltrs s) : ∃ hz : 0 < (joinT ss).size, isW (joinT ss)[0] = false ∧ 97 ≤ (joinT ss)[0].toNat ∧ (joinT ss)[0].toNat ≤ 104 := by
  cases ss with
  | nil => simp at hp
  | cons l r =>
    have hl := h l (by simp)
    obtain ⟨h1, h2⟩ := joinT_first (r := r) hl.pos
    refine ⟨h1, ?_⟩
    rw [h2]
    exact ⟨ltrs_isW hl 0 hl.pos hl.first, ltr0 hl⟩

theorem jt_of {n : Nat} {ks : List Nat} {ss : List ByteArray} (h : LzIn n ks ss) : JT (joinT ss) := by
  obtain ⟨hz, h1, h2, h3⟩ := join_first h.pos h.ltr
  have hsm := joinT_small ss (fun s hs => (h.ltr s hs).le)
  have hle := h.le
  have key : ∀ c : UInt8, c.toNat < 97 → (joinT ss)[0] ≠ c := by intro c hc e; rw [e] at h2; omega
  exact ⟨hz, by omega, key 32 (by decide), key 9 (by decide), key 10 (by decide), key 91 (by decide)⟩

/-- Every byte of the joined text, and what stands beside a line feed. -/
theorem join_nw : ∀ (ss : List ByteArray), (∀ s ∈ ss, Ltrs s) → NoW (joinT ss)
  | [], _ => by
    intro k hk
    have : (joinT []).size = 0 := by rw [size_list, joinT_list]; simp [Lib.join_nil]
    omega
  | [s], h => by
    rw [joinT_one]
    intro k hk e
    exfalso
    rcases (h s (by simp)).all _ (get_mem hk) with h1 | h1
    · rw [e] at h1; revert h1; decide
    · rw [e] at h1; revert h1; decide
  | s :: y :: r, h => by
    have hs := h s (by simp)
    have hy := h y (by simp)
    have ih := join_nw (y :: r) (fun x hx => h x (List.mem_cons_of_mem _ hx))
    have hsz := joinT_size2 s y r
    obtain ⟨f1, f2, _⟩ := join_first (ss := y :: r) (by simp) (fun x hx => h x (List.mem_cons_of_mem _ hx))
    have hsp := hs.pos
    have hg1 : ∀ k (hk : k < (joinT (s :: y :: r)).size) (h1 : k < s.size), (joinT (s :: y :: r))[k] = s[k] := by
      intro k hk h1
      have hg := list_get hk
      rw [joinT_cons2, List.getElem?_append_left (by rw [← size_list]; exact h1), list_get h1] at hg
      exact (Option.some.inj hg).symm
    have hg2 : ∀ k (hk : s.size + 1 + k < (joinT (s :: y :: r)).size), ∃ h1 : k < (joinT (y :: r)).size, (joinT (s :: y :: r))[s.size + 1 + k] = (joinT (y :: r))[k] := by
      intro k hk
      have h1 : k < (joinT (y :: r)).size := by omega
      refine ⟨h1, ?_⟩
      have hg := list_get hk
      rw [joinT_cons2, List.getElem?_append_right (by rw [← size_list]; omega), ← size_list, show s.size + 1 + k - s.size = k + 1 by omega, List.getElem?_cons_succ, list_get h1] at hg
      exact (Option.some.inj hg).symm
    intro k hk e
    by_cases c1 : k < s.size
    · exfalso
      rw [hg1 k hk c1] at e
      rcases hs.all _ (get_mem c1) with h1 | h1
      · rw [e] at h1; revert h1; decide
      · rw [e] at h1; revert h1; decide
    · by_cases c2 : k = s.size
      · subst c2
        refine ⟨hsp, by omega, ?_, ?_⟩
        · rw [hg1 (s.size - 1) (by omega) (by omega)]
          exact ltrs_isW hs _ (by omega) hs.last
        · obtain ⟨_, e2⟩ := hg2 0 (by omega)
          simp only [Nat.add_zero] at e2
          rw [e2]
          exact f2
      · obtain ⟨i, hi⟩ : ∃ i, k = s.size + 1 + i := ⟨k - s.size - 1, by omega⟩
        subst hi
        obtain ⟨h1, e2⟩ := hg2 i hk
        rw [e2] at e
        obtain ⟨i0, i1, i2, i3⟩ := ih i h1 e
        refine ⟨by omega, by omega, ?_, ?_⟩
        · obtain ⟨i', rfl⟩ : ∃ i', i = i' + 1 := ⟨i - 1, by omega⟩
          obtain ⟨_, e3⟩ := hg2 i' (by omega)
          simp only [show s.size + 1 + (i' + 1) - 1 = s.size + 1 + i' by omega]
          rw [e3]
          exact i2
        · obtain ⟨_, e3⟩ := hg2 (i + 1) (by omega)
          simp only [show s.size + 1 + i + 1 = s.size + 1 + (i + 1) by omega]
          rw [e3]
          exact i3

theorem join_plan {ss : List ByteArray} (hp : 0 < ss.length) (hle : ss.length ≤ 20) (h : ∀ s ∈ ss, Ltrs s) : ∃ all, Plan (joinT ss) 0 0 all ∧ all.flatMap outPc = (joinT ss).data.toList ∧ Fit (joinT ss) all := by
  have hsm := joinT_small ss (fun s hs => (h s hs).le)
  have hb : ∀ c ∈ (joinT ss).data.toList, c = 10 ∨ c = 32 ∨ (97 ≤ c.toNat ∧ c.toNat ≤ 104) := by
    intro c hc
    rcases joinT_mem ss c hc with h1 | ⟨l, hl, h1⟩
    · exact Or.inl h1
    · exact Or.inr ((h l hl).all c h1)
  have hq : ∀ c ∈ (joinT ss).data.toList, punct c = false := by
    intro c hc
    rcases hb c hc with h1 | h1 | h1
    · subst h1; decide
    · subst h1; decide
    · unfold punct
      simp
      omega
  have hsl : ∀ l : List UInt8, (∀ c ∈ l, punct c = false) → slL l = l := by
    intro l
    induction l with
    | nil => intro _; rfl
    | cons c l ih =>
      intro hl
      rw [sl_cons, ih (fun x hx => hl x (List.mem_cons_of_mem _ hx)), slB, hl c (by simp)]
      rfl
  obtain ⟨all, a1, a2, a3⟩ := plan_sl (joinT ss) (by omega) (join_nw ss h) (joinT ss).data.toList 0 0 (Nat.le_refl _) (Nat.zero_le _) (fun c hc => by
    rcases hb c hc with h1 | h1 | h1
    · exact Or.inr h1
    · subst h1; exact Or.inl (by unfold Pr; decide)
    · exact Or.inl (by unfold Pr; omega)) (by rw [hsl _ hq]; rfl)
  refine ⟨all, a1, ?_, a3⟩
  rw [a2, ext_none]
  have : (joinT ss).data.toList.flatMap escB = (joinT ss).data.toList := by
    refine G.escB_wd (fun c hc => ?_)
    have key : ∀ b : UInt8, b.toNat = 34 ∨ b.toNat = 38 ∨ b.toNat = 60 ∨ b.toNat = 62 → c ≠ b := by
      intro b hbb e
      subst e
      rcases hb c hc with h1 | h1 | h1
      · subst h1; revert hbb; decide
      · subst h1; revert hbb; decide
      · omega
    exact ⟨key 34 (by decide), key 38 (by decide), key 60 (by decide), key 62 (by decide)⟩
  rw [this]
  rfl
end Go.Proofs.YtdnlfdppjfjncaaGreatDoor

/- What HTML answers for lines of letters behind signs >. -/
namespace Go.Proofs.YtdnlfdppjfjncaaGreatDoor
open Go Go.RowKit Go.Proofs
open G (Opts Op)

theorem Prints.soft {w0 : World} {xb : Nat} : Prints w0 193 (.pointer (some ⟨xb, 0, none⟩)) [10] :=
  ⟨310, .pointer (some ⟨xb, 0, none⟩), fun k w => m_print_soft (k + 1) _ w, fun a c w => by kernel_rfl, fun B b l w _ _ hBw hb hl => soft_print B b _ l w hb hBw (by omega)⟩
theorem Prints.tag {w0 : World} {xb : Nat} {t : ByteArray} (hX : Blk w0 xb #[.string t] 286) (ht : t.size ≤ 1000000) : Prints w0 285 (.pointer (some ⟨xb, 0, none⟩)) t.data.toList :=
  ⟨352, .pointer (some ⟨xb, 0, none⟩), fun k w => m_print_tag (k + 1) _ w, fun a c w => by kernel_rfl, fun B b l w hS _ hBw hb hl => tag_print B b xb l t w hb hBw (by omega) ht ((hS.blk hX).cell 0)⟩

theorem pcs_prints {w : World} : ∀ {xs : List Value} {ps : List Pc}, PcsAt w xs ps → (∀ t, Pc.plain t ∈ ps ∨ Pc.esc t ∈ ps ∨ Pc.tag t ∈ ps → t.size ≤ 1000000) → (∀ t u, Pc.auto t u ∉ ps) → RowPrints w xs (ps.map outPc)
  | [], [], _, _, _ => .nil
  | x :: xs, p :: ps, h, hs, ha => by
    obtain ⟨⟨b, hx, hb⟩, h2⟩ := h
    subst hx
    have ih := pcs_prints h2 (fun t ht => hs t (by simp only [List.mem_cons]; rcases ht with h | h | h; exact Or.inl (Or.inr h); exact Or.inr (Or.inl (Or.inr h)); exact Or.inr (Or.inr (Or.inr h)))) (fun t u hm => ha t u (List.mem_cons_of_mem _ hm))
    cases p with
    | plain t => exact .cons (Prints.plain hb (hs t (Or.inl (by simp)))) ih
    | esc t => exact .cons (Prints.esc hb (hs t (Or.inr (Or.inl (by simp))))) ih
    | soft => exact .cons Prints.soft ih
    | auto t u => exact absurd (by simp) (ha t u)
    | tag t => exact .cons (Prints.tag hb (hs t (Or.inr (Or.inr (by simp))))) ih
  | [], _ :: _, h, _, _ => h.elim
  | _ :: _, [], h, _, _ => h.elim

def bqO : List UInt8 := [60, 98, 108, 111, 99, 107, 113, 117, 111, 116, 101, 62, 10]
def bqC : List UInt8 := [60, 47, 98, 108, 111, 99, 107, 113, 117, 111, 116, 101, 62, 10]
def bq (out : List UInt8) : Nat → List UInt8
  | 0 => pOpen ++ out ++ pClose
  | n + 1 => bqO ++ bq out n ++ bqC
theorem bq_len (out : List UInt8) : ∀ n, (bq out n).length = out.length + 8 + 27 * n
  | 0 => by simp [bq, pOpen, pClose]
  | n + 1 => by simp [bq, bqO, bqC, bq_len out n]; omega

theorem q_prints {w : World} {tb n : Nat} {x y : Int} {v m : Value} {xs : List Value} {os : List (List UInt8)} (hR : Blk w tb #[.int .i64 x, .int .i64 y, v, m] 110) (hown : w.ownsRow 0 132 1 v n xs) (hn0 : 0 < n) (hn6 : n ≤ 1000000) (hx : RowPrints w xs os) :
    ∀ (k : Nat) (u : Value), QAt w tb k u → ∃ T t, u = .iface T t ∧ Prints w T t (bq os.flatten k)
  | 0, u, ⟨pk, x', y', h1, h2⟩ => ⟨_, _, h1, Prints.para h2 hR hown hn0 hn6 hx⟩
  | k + 1, u, ⟨qb, a, b, ig, ic, u', h1, h2, h3, h4⟩ => by
    obtain ⟨T, t, rfl, hp⟩ := q_prints hR hown hn0 hn6 hx k u' h4
    have h5 := Prints.quote h2 h3 (by omega) (by omega) (.cons hp .nil)
    have e : [bq os.flatten k].flatten = bq os.flatten k := by simp
    rw [e] at h5
    exact ⟨_, _, h1, h5⟩

/-- Behind j lines. -/
def RQ (w : World) (pp n : Nat) (ss : List ByteArray) (j : Nat) (W : World) : Prop :=
  Same w W ∧ ∃ g cap, w.heap.size ≤ g ∧ ((j = 0 ∧ ∃ v, PsAt W w.heap.size { p0 pp with stack := .slice (some ⟨g, 0, none⟩) 1 cap } ∧
      W.ownsRow 0 121 4 (.slice (some ⟨g, 0, none⟩) 1 cap) 1 [rootV' v, .slice none 0 0, .int .i64 0, .int .i64 0]) ∨
    (0 < j ∧ ∃ (p : PSt) (L : List OB) (bb gt ct : Nat), p.parser = pp ∧ p.lineno = ((j : Nat) : Int) ∧ p.texts = .slice none 0 0 ∧ p.links = .map none ∧ w.heap.size ≤ bb ∧ w.heap.size ≤ gt ∧ LQ n bb L ∧ ParaL W w.heap.size g (n + 1) cap p L bb gt ct j (ss.take j)))

/-- Closed; the inlines of i of the one text read. -/
def DQ (w : World) (pp n : Nat) (s : ByteArray) (out : List UInt8) (tx : Value) (i : Nat) (W : World) : Prop :=
  (i = 0 ∧ Same w W ∧ ∃ (p : PSt) (rk tb tg tc ig ic : Nat) (x : Value) (a b a2 b2 : Int), tx = .slice (some ⟨tg, 0, none⟩) 1 tc ∧ p.texts = tx ∧ p.parser = pp ∧ p.root = .pointer (some ⟨rk, 0, none⟩) ∧ w.heap.size ≤ tb ∧
    Blk W rk #[.int .i64 a, .int .i64 b, .slice (some ⟨ig, 0, none⟩) 1 ic, .map none] 339 ∧ W.ownsRow 0 68 1 (.slice (some ⟨ig, 0, none⟩) 1 ic) 1 [x] ∧ QAt W tb n x ∧
    Blk W tb #[.int .i64 a2, .int .i64 b2, .slice none 0 0, .string s] 110 ∧
    W.ownsRow 0 105 1 (.slice (some ⟨tg, 0, none⟩) 1 tc) 1 [.pointer (some ⟨tb, 0, none⟩)] ∧ PsAt W w.heap.size p) ∨
  (i = 1 ∧ ∃ rk q, Same w W ∧ Prints W 48 (.pointer (some ⟨rk, 0, none⟩)) (bq out n) ∧ PsAt W w.heap.size q ∧ q.root = .pointer (some ⟨rk, 0, none⟩) ∧ q.parser = pp)

theorem lq_new {n bb : Nat} {r : OB} {qs : List OB} {v : Option Addr} {no : Int} (hr : r = ⟨rootV' v, .slice none 0 0, 0, 0⟩) (hq : qs.length = n) (hqs : ∀ o ∈ qs, QOb no o) (hno : 0 ≤ no ∧ no ≤ 1000000) :
    LQ n bb (r :: qs ++ [⟨.iface 162 (.pointer (some ⟨bb, 0, none⟩)), .slice none 0 0, no, no⟩]) := by
  refine ⟨by simp [hq], fun i o ho => ?_⟩
  rcases i with _ | i
  · simp at ho
    subst ho
    subst hr
    exact ⟨rfl, ⟨Int.le_refl _, show (0 : Int) ≤ 1000000 by decide⟩, Or.inl ⟨rfl, v, rfl⟩⟩
  · rw [List.cons_append, List.getElem?_cons_succ] at ho
    by_cases hi : i < n
    · rw [List.getElem?_append_left (by omega)] at ho
      obtain ⟨⟨b, hb⟩, h2, h3, h4⟩ := hqs o (List.mem_of_getElem? ho)
      exact ⟨h2, by rw [h3]; exact hno, Or.inr (Or.inl ⟨by omega, by omega, b, hb⟩)⟩
    · rw [List.getElem?_append_right (by omega)] at ho
      obtain ⟨d, hd⟩ : ∃ d, i - qs.length = d := ⟨_, rfl⟩
      rw [hd] at ho
      rcases d with _ | d
      · simp at ho
        subst ho
        exact ⟨rfl, hno, Or.inr (Or.inr ⟨by omega, rfl⟩)⟩
      · simp at ho

set_option maxHeartbeats 1000000 in
theorem rq_step (n pp : Nat) (ks : List Nat) (ss : List ByteArray) (w : World) (hI : LzIn n ks ss) (hO : Opts ⟨false, false⟩ w pp) (j : Nat) (l : ByteArray) (nl : Int) (W : World) (hl : (List.zipWith lzT ks ss)[j]? = some l) (hR : RQ w pp n ss j W) :
    Calls Tryz.prog 64 #[.pointer (some ⟨w.heap.size, 0, none⟩), LV 0 l nl] (W.setCell ⟨w.heap.size, 3, none⟩ (.int .i64 ((j : Int) + 1))) fun e w2 => e = .returned (.tuple #[]) ∧ RQ w pp n ss (j + 1) w2 := by
  obtain ⟨k, s, hk, hs, rfl⟩ := zip_rest ks ss hI.len j l hl
  have hls := hI.ltr s (List.mem_of_getElem? hs)
  have hkn := hI.all k (List.mem_of_getElem? hk)
  have hn9 := hI.n9
  have hlz := lz_line (k := k) hls (by omega)
  have hrest := lz_rest (k := k) hls
  have hle := hI.le
  have hjl : j < ss.length := (List.getElem?_eq_some_iff.1 hs).1
  have hpl := hO.lt
  obtain ⟨hsame, g, cap, hgw, ⟨rfl, v, hp, hown⟩ | ⟨hj0, p, L, bb, gt, ct, hpp, hno, htx, hlk, hbb, hgt, hLQ, hP⟩⟩ := hR
  · have hkk : k = n := Option.some.inj (hk.symm.trans hI.first)
    subst hkk
    have hm : Mods (fun k => k = w.heap.size) W (W.setCell ⟨w.heap.size, 3, none⟩ (.int .i64 (((0 : Nat) : Int) + 1))) := (Mods.refl (fun k => k = w.heap.size) W).setCell (p := ⟨w.heap.size, 3, none⟩) (fun _ => rfl) _
    have hpY : PsAt (W.setCell ⟨w.heap.size, 3, none⟩ (.int .i64 (((0 : Nat) : Int) + 1))) w.heap.size { p0 pp with lineno := 1, stack := .slice (some ⟨g, 0, none⟩) 1 cap } := hp.set 3 _ _ rfl (by decide)
    have hownY := ownsRow_keep hown hm (fun k hk x => own_ne_ps hown hp (by decide) (by rw [← x]; exact hk))
    generalize (W.setCell ⟨w.heap.size, 3, none⟩ (.int .i64 (((0 : Nat) : Int) + 1)) : World) = Y at *
    have hws := hsame.size
    have hYs := hm.size
    have hppb : pp ≠ w.heap.size := by omega
    have hOY : Opt Y { p0 pp with lineno := 1, stack := .slice (some ⟨g, 0, none⟩) 1 cap } 5 false := ((hO.same hsame).opt rfl 5 (by omega) (by omega) (by omega)).keep hm hppb
    refine (addLine_quotes w.heap.size g cap k { p0 pp with lineno := 1, stack := .slice (some ⟨g, 0, none⟩) 1 cap } ⟨rootV' v, .slice none 0 0, 0, 0⟩ 98 (.pointer v) (lzT k s) nl Y hpY rfl rfl (by decide) (by decide) hownY hOY hppb (by show pp ≠ g; omega) (by omega) hlz).mono ?_
    rintro e w2 ⟨rfl, hm2, g2, cap2, qs, bb, gt, ct, hql, hqs, hP, hbb, hgt, hg2⟩
    rw [hrest] at hP
    have hg3 : w.heap.size ≤ g2 := by
      by_cases hlt : g2 < Y.heap.size
      · have hh : g = g2 := Option.some.inj (hg2 hlt)
        omega
      · omega
    refine ⟨rfl, ?_, g2, cap2, hg3, Or.inr ⟨by omega, { p0 pp with lineno := 1, depth := ((k : Nat) : Int), stack := .slice (some ⟨g2, 0, none⟩) (k + 2) cap2 }, _, bb, gt, ct, rfl, rfl, rfl, rfl, by omega, by omega, lq_new (v := v) (r := ⟨rootV' v, .slice none 0 0, 0, 0⟩) rfl hql hqs ⟨show (0 : Int) ≤ 1 by decide, show (1 : Int) ≤ 1000000 by decide⟩, ?_⟩⟩
    · exact (hsame.then hm (fun b hb x => by omega)).then hm2 (fun b hb x => by
        rcases x with x | x
        · omega
        · have hh : g = b := Option.some.inj x
          omega)
    · rw [take_succ_get hs, List.take_zero]
      exact hP
  · obtain ⟨hPY, hm⟩ := hP.setLine ((j : Int) + 1)
    generalize (W.setCell ⟨w.heap.size, 3, none⟩ (.int .i64 ((j : Int) + 1)) : World) = Y at *
    have hws := hsame.size
    have hYs := hm.size
    have hppb : pp ≠ w.heap.size := by omega
    have hOY : Opt Y { p with lineno := (j : Int) + 1 } 5 false := ((hO.same hsame).opt (p := { p with lineno := (j : Int) + 1 }) hpp 5 (by omega) (by omega) (by omega)).keep hm (by show ¬ p.parser = w.heap.size; rw [hpp]; exact hppb)
    refine (addLine_lazy w.heap.size g cap n k _ L bb gt ct j (ss.take j) (lzT k s) nl Y hPY hLQ (by omega) hkn hOY (by show p.parser ≠ _; rw [hpp]; exact hppb) (by show p.parser ≠ g; rw [hpp]; omega) hj0 (by omega) hlz).mono ?_
    rintro e w2 ⟨rfl, hm2, L', gt', ct', hLQ', hP', hgt'⟩
    rw [hrest] at hP'
    refine ⟨rfl, ?_, g, cap, hgw, Or.inr ⟨by omega, { p with lineno := (j : Int) + 1, depth := ((k : Nat) : Int) }, L', bb, gt', ct', hpp, by show (j : Int) + 1 = ((j + 1 : Nat) : Int); omega, htx, hlk, hbb, ?_, hLQ', ?_⟩⟩
    · exact (hsame.then hm (fun b hb x => by omega)).then hm2 (fun b hb x => by omega)
    · rcases hgt' with h | h <;> omega
    · rw [take_succ_get hs]
      exact hP'

theorem last_isW : ∀ (ss : List ByteArray), (∀ s ∈ ss, Ltrs s) → ∀ hz : 0 < (joinT ss).size, isW ((joinT ss)[(joinT ss).size - 1]'(by omega)) = false
  | [], _, hz => by
    have : (joinT []).size = 0 := by rw [size_list, joinT_list]; simp [Lib.join_nil]
    omega
  | [s], h, hz => by
    have hs := h s (by simp)
    have e : ∀ t : ByteArray, t = s → ∀ hz : 0 < t.size, isW (t[t.size - 1]'(by omega)) = false := by
      intro t ht hz
      subst ht
      exact ltrs_isW hs _ (by omega) hs.last
    exact e _ (joinT_one s) hz
  | s :: y :: r, h, hz => by
    obtain ⟨hz2, _⟩ := join_first (ss := y :: r) (by simp) (fun x hx => h x (List.mem_cons_of_mem _ hx))
    have ih := last_isW (y :: r) (fun x hx => h x (List.mem_cons_of_mem _ hx)) hz2
    have hsz := joinT_size2 s y r
    have hlt : (joinT (s :: y :: r)).size - 1 < (joinT (s :: y :: r)).size := by omega
    have hg := list_get hlt
    rw [joinT_cons2, List.getElem?_append_right (by rw [← size_list]; omega), ← size_list, show (joinT (s :: y :: r)).size - 1 - s.size = ((joinT (y :: r)).size - 1) + 1 by omega, List.getElem?_cons_succ, list_get (show (joinT (y :: r)).size - 1 < (joinT (y :: r)).size by omega)] at hg
    rw [← Option.some.inj hg]
    exact ih

set_option maxHeartbeats 2000000 in
theorem reads_quotes (n pp : Nat) (ks : List Nat) (ss : List ByteArray) (w : World) (hI : LzIn n ks ss) (hO : Opts ⟨false, false⟩ w pp) :
    Reads w w.heap.size pp (List.zipWith lzT ks ss) (RQ w pp n ss) (DQ w pp n (joinT ss) (joinT ss).data.toList) 1 where
  line := by
    rintro j W ⟨_, g, cap, _, ⟨rfl, v, hp, _⟩ | ⟨_, p, L, bb, gt, ct, _, hno, _, _, _, _, _, hP⟩⟩
    · exact ⟨hp.lineno, hp.fr 3, hp.lt⟩
    · exact ⟨by rw [← hno]; exact hP.at_.lineno, hP.at_.fr 3, hP.at_.lt⟩
  same := by
    rintro j W W' ⟨h1, g, cap, h2, ⟨h3, v, h4, h5⟩ | ⟨h3, p, L, bb, gt, ct, a1, a2, a3, a4, a5, a6, a7, a8⟩⟩ hm
    · exact ⟨h1.trans hm, g, cap, h2, Or.inl ⟨h3, v, h4.same hm, ownsRow_keep h5 hm (fun _ _ x => x)⟩⟩
    · exact ⟨h1.trans hm, g, cap, h2, Or.inr ⟨h3, p, L, bb, gt, ct, a1, a2, a3, a4, a5, a6, a7, a8.same hm⟩⟩
  first := fun W g cap v hS hg' hp hr => ⟨hS, g, cap, hg', Or.inl ⟨rfl, v, hp, hr⟩⟩
  step := fun j l nl W hl hR => rq_step n pp ks ss w hI hO j l nl W hl hR
  close := by
    intro W hR
    have hlen : (List.zipWith lzT ks ss).length = ss.length := by rw [List.length_zipWith, hI.len]; omega
    rw [hlen] at hR
    have hpos := hI.pos
    have hle := hI.le
    have hn9 := hI.n9
    obtain ⟨hsame, g, cap, hgw, ⟨h0, _⟩ | ⟨_, p, L, bb, gt, ct, hpp, hno, htx, hlk, hbb, hgt, hLQ, hP⟩⟩ := hR
    · omega
    · rw [List.take_length] at hP
      refine (closed_quotes w.heap.size g cap n ss.length gt ct bb p L ss W hP hLQ (by omega) rfl hpos (by omega) (jt_of hI) htx hlk).mono ?_
      rintro e w' ⟨rfl, rk, ig, ic, x, a, b, hrk, hR, hQ⟩
      obtain ⟨tb, tg, tc, a2, b2, htb, hQA, hTb, htxr, hps⟩ := hQ.ex
      have hws := hsame.size
      refine ⟨rfl, _, _, hps.texts, Or.inl ⟨rfl, hsame.then hQ.mods (fun b hb h => by omega), { p with root := .pointer (some ⟨rk, 0, none⟩), texts := .slice (some ⟨tg, 0, none⟩) 1 tc, stack := .slice (some ⟨g, 0, none⟩) 0 cap }, rk, tb, tg, tc, ig, ic, x, a, b, a2, b2, rfl, rfl, hpp, rfl, by omega, hR, hQ.inn, hQA, hTb, htxr, hps⟩⟩
  texts := by
    rintro a c i W hi (⟨rfl, hsame, p, rk, tb, tg, tc, ig, ic, x, x1, y1, x2, y2, htx0, htx1, hpp, hroot, htb, hR, hin, hQA, hT, htx, hps⟩ | ⟨rfl, _⟩)
    · cases htx0
      have t0 : W.cell? ⟨tg, 0, none⟩ = some (.pointer (some ⟨tb, 0, none⟩)) := by
        obtain ⟨_, _, he, _, _, hc⟩ := ownsRow_form htx (by omega)
        cases he
        exact hc 0 _ rfl
      have hcap : 1 ≤ c := by
        rcases htx.2 with ⟨h, _⟩ | ⟨_, _, _, hv, _, _, hc, _⟩
        · cases h
        · cases hv; exact hc
      obtain ⟨tail, htl⟩ := id hps
      have hTne : tb ≠ w.heap.size := hT.ne_of_type htl (by decide)
      have hJT := jt_of hI
      have hsm := joinT_small ss (fun s hs => (hI.ltr s hs).le)
      have hle := hI.le
      have hpl := hO.lt
      obtain ⟨all, hall, hout, hfit⟩ := join_plan hI.pos hI.le hI.ltr
      obtain ⟨_, hw1, _⟩ := join_first hI.pos hI.ltr
      refine ⟨tg, tb, joinT ss, rfl, hcap, t0, hT.cell 3, ?_⟩
      refine (inline_any w.heap.size p (joinT ss) W hps (by omega) hJT.pos all hall ((hO.same hsame).opt hpp 3 (by omega) (by omega) (by omega)) (by rw [hpp]; omega) (trimSpaceTab_id (joinT ss) W (by omega) hJT.pos hw1 (last_isW ss hI.ltr hJT.pos))).mono ?_
      rintro e w4 ⟨gl, m, lc, xs, rfl, hn0, hn1, c', hH⟩
      have hmw := hH.mods
      have hT4 := hT.keep1 hmw hTne
      have hmt : Mods (fun b => b = tb) w4 (w4.setCell ⟨tb, 2, none⟩ (.slice (some ⟨gl, 0, none⟩) m lc)) := (Mods.refl (fun b => b = tb) w4).setCell (p := ⟨tb, 2, none⟩) (fun _ => rfl) _
      have hT5 := hT4.set_same 2 (.slice (some ⟨gl, 0, none⟩) m lc)
      have hno1 : ∀ (b : Nat) (cs : Array Value) (T : Nat), Blk W b cs T → T ≠ 95 → ¬ (b = w.heap.size) := fun b cs T hb h => hb.ne_of_type htl h
      have hno2 : ∀ (b : Nat) (cs : Array Value) (T : Nat), Blk w4 b cs T → T ≠ 110 → ¬ (b = tb) := fun b cs T hb h => hb.ne_of_type hT4 h
      have hR4 := hR.keep hmw (hno1 _ _ _ hR (by decide))
      have hR5 := hR4.keep hmt (hno2 _ _ _ hR4 (by decide))
      have hin4 := ownsRow_keep hin hmw (fun k hk x => own_ne_ps hin hps (by decide) (by rw [← x]; exact hk))
      have hin5 := ownsRow_keep hin4 hmt (fun k hk x => own_ne hin4 hT4 (by decide) (by rw [← x]; exact hk))
      have hQ4 := QAt.keep hmw (fun b cs T hb hT => hno1 b cs T hb (by rcases hT with rfl | rfl | rfl <;> decide)) _ _ hQA
      have hQ5 := QAt.keep hmt (fun b cs T hb hT => hno2 b cs T hb (by rcases hT with rfl | rfl | rfl <;> decide)) _ _ hQ4
      have hrow5 := ownsRow_keep hH.row hmt (fun k hk x => own_ne hH.row hT4 (by decide) (by rw [← x]; exact hk))
      have hpc5 := hH.pcs.keep hmt (fun b cs T hb hT => hno2 b cs T hb (by rcases hT with rfl | rfl | rfl | rfl | rfl <;> decide))
      have hrp := pcs_prints hpc5 (fun t ht => by have := hfit.sz t ht; omega) hfit.au
      obtain ⟨T, t, rfl, hpq⟩ := q_prints hT5 hrow5 hn0 (by omega) hrp n x hQ5
      have hpr := Prints.doc hR5 hin5 (by omega) (by omega) (.cons hpq .nil)
      have hfl : [bq (all.map outPc).flatten n].flatten = bq (joinT ss).data.toList n := by
        rw [← List.flatMap_def, hout]
        simp
      rw [hfl] at hpr
      refine ⟨_, _, _, rfl, ⟨_, hT4.cell 2, hT4.fr 2, hT4.lt⟩, Or.inr ⟨rfl, rk, _, ?_, hpr, hH.at_.set_other (a := ⟨tb, 2, none⟩) hTne _, hroot, hpp⟩⟩
      exact (hsame.then hmw (fun b hb h => by omega)).then hmt (fun b hb h => by omega)
    · exact absurd hi (Nat.lt_irrefl _)
  sameD := by
    rintro tx i W W' (⟨h1, h2, p, rk, tb, tg, tc, ig, ic, x, a, b, a2, b2, e1, e2, e3, e4, e5, e6, e7, e8, e9, e10, e11⟩ | ⟨h1, rk, q, h2, h2b, h3, h4, h5⟩) hm
    · exact Or.inl ⟨h1, h2.trans hm, p, rk, tb, tg, tc, ig, ic, x, a, b, a2, b2, e1, e2, e3, e4, e5, hm.blk e6, ownsRow_keep e7 hm (fun _ _ x => x), QAt.keep hm (fun _ _ _ _ _ x => x) _ _ e8, Same.blk hm e9, ownsRow_keep e10 hm (fun _ _ x => x), e11.same hm⟩
    · exact Or.inr ⟨h1, rk, q, h2.trans hm, h2b.same hm, h3.same hm, h4, h5⟩
  fin := by
    rintro tx W (⟨h, _⟩ | ⟨_, rk, q, h2, h2b, h3, h4, h5⟩)
    · exact absurd h (by decide)
    · have hoff := (hO.same h2).opt (p := p0 pp) rfl 2 (by omega) (by omega) (by omega)
      exact ⟨⟨rk, by rw [← h4]; exact h3.root⟩, ⟨_, h3.corner⟩, hoff.cell, by rw [← h5]; exact h3.parser⟩

theorem endT_small : ∀ (ls : List ByteArray) (m : Nat), (∀ l ∈ ls, l.size ≤ m) → (endT ls).size ≤ (m + 1) * ls.length
  | [], m, _ => by rw [endT_nil]; exact Nat.zero_le _
  | l :: r, m, h => by
    rw [endT_size]
    have h1 := endT_small r m (fun x hx => h x (List.mem_cons_of_mem _ hx))
    have h2 := h l (by simp)
    simp only [List.length_cons, Nat.mul_succ]
    omega

theorem html_quotes (n : Nat) (ks : List Nat) (ss : List ByteArray) (w : World) (hI : LzIn n ks ss) :
    Calls Tryz.prog 17 #[.agg #[.bool false, .bool false, .bool false, .bool false, .bool false, .bool false, .bool false, .bool false, .bool false, .bool false], .string (endT (List.zipWith lzT ks ss))] w
      fun e w' => e = .returned (.string ⟨(bq (joinT ss).data.toList n).toArray⟩) ∧ Same w w' := by
  have hle := hI.le
  have hn9 := hI.n9
  have hsm := joinT_small ss (fun s hs => (hI.ltr s hs).le)
  have hlen : (List.zipWith lzT ks ss).length = ss.length := by rw [List.length_zipWith, hI.len]; omega
  have hmem : ∀ l ∈ List.zipWith lzT ks ss, ∃ k s, k ≤ n ∧ Ltrs s ∧ l = lzT k s := by
    intro l hl
    obtain ⟨j, hj⟩ := List.mem_iff_getElem?.1 hl
    obtain ⟨k, s, h1, h2, h3⟩ := zip_rest ks ss hI.len j l hj
    exact ⟨k, s, hI.all k (List.mem_of_getElem? h1), hI.ltr s (List.mem_of_getElem? h2), h3⟩
  have hno : ∀ b : UInt8, b.toNat < 32 → ∀ l ∈ List.zipWith lzT ks ss, b ∉ l.data.toList := by
    intro b hb l hl
    obtain ⟨k, s, _, h2, rfl⟩ := hmem l hl
    exact lz_no h2 b hb
  have hes := endT_small (List.zipWith lzT ks ss) 100 (by
    intro l hl
    obtain ⟨k, s, h1, h2, rfl⟩ := hmem l hl
    rw [lzT_size]
    have := h2.le
    omega)
  have hF := endT_feed (List.zipWith lzT ks ss) (by omega) (hno 10 (by decide)) (hno 13 (by decide)) (hno 0 (by decide))
  have hgen := G.html_gen ⟨false, false⟩ (endT (List.zipWith lzT ks ss)) w (bq (joinT ss).data.toList n) (by rw [bq_len, ← size_list]; omega) (by
    intro pp w1 hO
    go_enter Tryz.func39, Tryz.ntmps39
    go_wp2_with fail
    refine (parse_gen pp (fun j => endT ((List.zipWith lzT ks ss).drop j)) _ w1 hF (RQ w1 pp n ss) (DQ w1 pp n (joinT ss) (joinT ss).data.toList) 1 (by omega) (reads_quotes n pp ks ss w1 hI hO)).mono ?_
    rintro e w' ⟨rk, c, rfl, h1, tx, ⟨h, _⟩ | ⟨_, rk', q, h2, h2b, h3, h4, h5⟩⟩
    · exact absurd h (by decide)
    · have e1 := h1.symm.trans (h3.root.trans (by rw [h4]))
      cases e1
      go_wp2_with fail
      go_ret
      exact ⟨rk, rfl, h2, h2b⟩)
  exact hgen
end Go.Proofs.YtdnlfdppjfjncaaGreatDoor

/- The laws' own functions: escaped (over strings.Builder). -/
namespace Go.Proofs.YtdnlfdppjfjncaaGreatDoor
open Go Go.RowKit Go.Proofs

set_option maxHeartbeats 1000000 in
set_option maxRecDepth 100000 in
theorem copyCheck_used (b : Nat) (w : World) (h0 : w.cell? ⟨b, 0, none⟩ = some (.pointer (some ⟨b, 0, none⟩))) :
    Calls Tryz.prog 54 #[.pointer (some ⟨b, 0, none⟩)] w fun e w' => e = .returned (.tuple #[]) ∧ w = w' := by
  have hj0 : (Tryz.prog.info? 55).isSome = true := by kernel_rfl
  obtain ⟨j, hj⟩ := Option.isSome_iff_exists.1 hj0
  have hq := fun wx : World => Lib.run_neq_ptr_same (P := Tryz.prog) wx ⟨b, 0, none⟩ Tryz.underlying53 hj
  go_enter Tryz.func54, Tryz.ntmps54
  go_wp2
  go_end0
  exact ⟨rfl, rfl⟩

set_option maxHeartbeats 1000000 in
set_option maxRecDepth 100000 in
theorem copyCheck_fresh (b : Nat) (w : World) (h0 : w.cell? ⟨b, 0, none⟩ = some (.pointer none)) (hsh : w.shape? b = some (55, 2)) (hfz : w.frozen? ⟨b, 0, none⟩ = false) :
    Calls Tryz.prog 54 #[.pointer (some ⟨b, 0, none⟩)] w fun e w' => e = .returned (.tuple #[]) ∧ w' = w.setCell ⟨b, 0, none⟩ (.pointer (some ⟨b, 0, none⟩)) := by
  have hj0 : (Tryz.prog.info? 55).map (fun i => i.size) = some 2 := by kernel_rfl
  obtain ⟨j, hj, hjs⟩ := Option.map_eq_some_iff.1 hj0
  have hlies : liesAt Tryz.prog Tryz.prog.depth 55 (2 / Tryz.prog.cellsOf 55) 0 55 1 = true := by kernel_rfl
  go_enter Tryz.func54, Tryz.ntmps54
  go_wp2
  rw [Lib.run_to_unsafe w ⟨b, 0, none⟩ Tryz.underlying53 Tryz.underlying113 hj (by rw [hjs]; decide) hsh (Nat.zero_lt_succ 1)]
  simp only [Result.andThen]
  rw [Oper.upon_value]
  go_wp2
  rw [run_callFunc_extern Tryz.func68 (by kernel_rfl) (by kernel_rfl) (by kernel_rfl) (e := Extern.AbiNoEscape.same) (by kernel_rfl)]
  rw [Lib.run_noEscape]
  simp only [Result.andThen]
  rw [Oper.upon_value]
  go_wp2
  rw [Lib.run_from_unsafe w ⟨b, 0, none⟩ Tryz.underlying113 Tryz.underlying53 hj hsh hlies]
  simp only [Result.andThen]
  rw [Oper.upon_value]
  go_wp2
  go_end0
  exact ⟨rfl, rfl⟩

theorem copyCheck_any (B b : Nat) (bs : List Value) (w : World) (h : Lib.IsBuilder 55 5 B b bs w) :
    Calls Tryz.prog 54 #[.pointer (some ⟨b, 0, none⟩)] w fun e w' => e = .returned (.tuple #[]) ∧ Lib.BuilderAt 55 5 B b (.pointer (some ⟨b, 0, none⟩)) bs w' ∧ Below B w w' := by
  rcases h with h | h
  · refine (copyCheck_fresh b w h.cell0 h.shape h.frozen0).mono ?_
    rintro e w' ⟨rfl, rfl⟩
    exact ⟨rfl, h.used _, (Below.refl B w).setCell (p := ⟨b, 0, none⟩) h.1 _⟩
  · refine (copyCheck_used b w h.cell0).mono ?_
    rintro e w' ⟨rfl, rfl⟩
    exact ⟨rfl, h, Below.refl B _⟩

set_option maxHeartbeats 2000000 in
set_option maxRecDepth 100000 in
theorem builder_byte (B b : Nat) (l : List UInt8) (c : UInt8) (w : World) (h : Lib.IsBuilder 55 5 B b (Lib.byteCells l) w) (hlen : l.length ≤ 100000000) (hBw : B ≤ w.heap.size) :
    Calls Tryz.prog 42 #[.pointer (some ⟨b, 0, none⟩), .int .u8 c.toNat] w fun e w' => e = .returned .nilIface ∧ Lib.IsBuilder 55 5 B b (Lib.byteCells (l ++ [c])) w' ∧ Below B w w' := by
  have hi0 : (Tryz.prog.info? 5).map (fun i => (i.zero, i.size, i.bytes)) = some (some (.int .u8 0), 1, 1) := by kernel_rfl
  obtain ⟨i0, hi, hz⟩ := Option.map_eq_some_iff.1 hi0
  simp only [Prod.mk.injEq] at hz
  obtain ⟨hz0, hz1, hz2⟩ := hz
  have hbl : (Lib.byteCells l).length = l.length := by simp [Lib.byteCells]
  have hlen' : (Lib.byteCells l).length ≤ 100000000 := by omega
  have HBS := Lib.hid (Lib.byteCells_append l [c])
  clear hbl hlen
  generalize hbs : Lib.byteCells l = bs at *
  go_enter Tryz.func42, Tryz.ntmps42
  go_wp2_with (go_at_call 54; refine (copyCheck_any B b bs _ h).mono ?_)
  rintro e w1 ⟨rfl, h1, hb1⟩
  obtain ⟨hB, v, hbk, hown, hne⟩ := h1
  have c0 : w1.cell? ⟨b, 0, none⟩ = some (.pointer (some ⟨b, 0, none⟩)) := by rw [Lib.cell_of_heap hbk]; rfl
  have c1 : w1.cell? ⟨b, 1, none⟩ = some v := by rw [Lib.cell_of_heap hbk]; rfl
  go_wp2_with (at_builtin; refine wpList_append_own _ rfl _ _ 35 rfl B 5 i0 (.int .u8 0) 1 1 Tryz.underlying35 hi hz0 hz1 hz2 rfl (by decide) _ _ _ rfl (hown.alloc _) ⟨w1.heap.size, 0, none⟩ 1 1 [.int .u8 c.toNat] rfl rfl ?c1 ?c2 ?c3 ?c4 ?c5 ?_)
  case c1 =>
    intro j u hj
    match j, hj with
    | 0, hj => simp at hj; subst hj; simp [Addr.add]
  case c2 => intro u hu; simp at hu; subst hu; rfl
  case c3 => unfold maxLen; omega
  case c4 => omega
  case c5 => have := hb1.size; simp; omega
  intro v' w2 hown' hgrow _
  have hlt : b < w1.heap.size := by
    rcases Nat.lt_or_ge b w1.heap.size with h' | h'
    · exact h'
    · simp [Array.getElem?_eq_none h'] at hbk
  have hb2 : w2.heap[b]? = some (.cells #[.pointer (some ⟨b, 0, none⟩), v] 55 (0, 0)) := by
    rw [hgrow.block b (by simp; omega) (fun e => hne e.symm), Lib.alloc_old w1 _ b hlt]
    exact hbk
  have d0 : w2.cell? ⟨b, 0, none⟩ = some (.pointer (some ⟨b, 0, none⟩)) := by rw [Lib.cell_of_heap hb2]; rfl
  have d1 : w2.cell? ⟨b, 1, none⟩ = some v := by rw [Lib.cell_of_heap hb2]; rfl
  have f1 : w2.frozen? ⟨b, 1, none⟩ = false := Lib.frozen_of_heap hb2 1
  obtain ⟨g, cap, rfl⟩ : ∃ g cap, v' = .slice (some ⟨g, 0, none⟩) (bs.length + 1) cap := by
    rcases hown'.2 with ⟨_, h0⟩ | ⟨g, cap, cur, hv, _⟩
    · omega
    · exact ⟨g, cap, hv⟩
  go_wp2
  go_ret
  refine ⟨rfl, ?_, ?_⟩
  · rw [HBS.out]
    exact Or.inr (Lib.BuilderAt.put (T := 55) (e := 5) hB hb2 (bs' := bs ++ [.int .u8 c.toNat]) (by simpa using hown') (by decide))
  · exact ((hb1.alloc (by have := hb1.size; omega) _).grown hgrow (by have := hb1.size; simp; omega) (fun k hk => (hown.lt k hk).1)).setCell (p := ⟨b, 1, none⟩) hB _

theorem slL_take (s : ByteArray) (j : Nat) (h : j < s.size) : slL (s.data.toList.take (j + 1)) = slL (s.data.toList.take j) ++ slB s[j] := by
  rw [List.take_add_one, get_of h]
  simp [slL]

set_option maxHeartbeats 4000000 in
theorem escaped_any (s : ByteArray) (w : World) (hs : s.size ≤ 1000000) :
    Calls Tryz.prog 21 #[.string s] w fun e w' => e = .returned (.string (slT s)) ∧ Same w w' := by
  go_enter Tryz.func21, Tryz.ntmps21
  go_wp2_with fail
  generalize hW : (w.alloc _ : World) = W
  have hm : Below w.heap.size w W := by subst hW; exact (Below.refl _ w).alloc (Nat.le_refl _) _
  have hb : Lib.IsBuilder 55 5 w.heap.size w.heap.size (Lib.byteCells (slL (s.data.toList.take 0))) W := by subst hW; exact Lib.fresh_isBuilder _ _ w
  clear hW
  go_loopg [7] s.size (fun k i wr => ∃ j : Nat, i = .int .i64 j ∧ k = s.size - j ∧ j ≤ s.size ∧ Below w.heap.size w wr ∧ Lib.IsBuilder 55 5 w.heap.size w.heap.size (Lib.byteCells (slL (s.data.toList.take j))) wr)
  case atStart => exact ⟨0, rfl, rfl, Nat.zero_le _, hm, hb⟩
  case round =>
    clear hm hb
    obtain ⟨j, rfl, rfl, hj, hm, hb⟩ := hrel
    have hl := (slL_len (s.data.toList.take j)).2
    have hl2 : (s.data.toList.take j).length ≤ j := List.length_take_le _ _
    by_cases hlt : j < s.size
    · have w1 : (j : Int) < s.size := by omega
      have w2 : (0 : Int) ≤ j := by omega
      have w3 : IntKind.i64.wrap ((j : Int) + 1) = (j : Int) + 1 := IntWalk.i64_in _ (by omega)
      have hsucc := slL_take s j hlt
      have HS := Lib.hid hsucc
      clear hsucc
      by_cases hp : punct s[j] = true
      · have HP : Hid (slB s[j] = [92] ++ [s[j]]) := by show slB _ = _; unfold slB; rw [if_pos hp]; rfl
        have hz := hm.size
        go_wp2_with fail
        refine (spec_IsPunct s[j] wr).mono ?_
        rintro e w' ⟨rfl, rfl⟩
        rw [hp]
        clear hp
        go_wp2_with fail
        refine (builder_byte _ _ _ 92 wr hb (by omega) hz).mono ?_
        rintro e w3 ⟨rfl, hb3, hm3⟩
        have hz3 := (hm.trans hm3).size
        go_wp2_with fail
        refine (builder_byte _ _ _ s[j] w3 hb3 (by simp; omega) hz3).mono ?_
        rintro e w4 ⟨rfl, hb4, hm4⟩
        go_wp2_with fail
        go_roundg (s.size - (j + 1))
        case measure => omega
        case rel => exact ⟨j + 1, rfl, rfl, by omega, (hm.trans hm3).trans hm4, by rw [HS.out, HP.out, ← List.append_assoc]; exact hb4⟩
      · have hp' : punct s[j] = false := by simpa using hp
        have HP : Hid (slB s[j] = [s[j]]) := by show slB _ = _; unfold slB; rw [if_neg hp]
        have hz := hm.size
        go_wp2_with fail
        refine (spec_IsPunct s[j] wr).mono ?_
        rintro e w' ⟨rfl, rfl⟩
        rw [hp']
        clear hp hp'
        go_wp2_with fail
        refine (builder_byte _ _ _ s[j] wr hb (by omega) hz).mono ?_
        rintro e w4 ⟨rfl, hb4, hm4⟩
        go_wp2_with fail
        go_roundg (s.size - (j + 1))
        case measure => omega
        case rel => exact ⟨j + 1, rfl, rfl, by omega, hm.trans hm4, by rw [HS.out, HP.out]; exact hb4⟩
    · have w1 : ¬ ((j : Int) < s.size) := by omega
      have hjs : j = s.size := by omega
      have hz := hm.size
      have hall : s.data.toList.take j = s.data.toList := List.take_of_length_le (by rw [hjs]; exact Nat.le_refl _)
      rw [hall] at hb
      clear hall hl hl2
      go_wp2_with fail
      refine (Tryz.Builder_String_any _ _ _ wr hb hz).mono ?_
      rintro e w4 ⟨rfl, hm4⟩
      go_wp2_with fail
      go_ret
      exact ⟨rfl, Below.mods (S := fun _ => False) (hm.trans hm4) (fun k hk hk2 => absurd hk (by omega))⟩
end Go.Proofs.YtdnlfdppjfjncaaGreatDoor
