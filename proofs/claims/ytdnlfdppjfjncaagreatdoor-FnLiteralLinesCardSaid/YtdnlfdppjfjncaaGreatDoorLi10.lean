/- Some texts of one proof, put into one file: ParseM, ParseN, ParseO, ManyHTML, PlanM, LawL. -/
import Derived.Test.YtdnlfdppjfjncaaGreatDoorLi5
import Derived.Test.YtdnlfdppjfjncaaGreatDoorLi6
import Derived.Test.YtdnlfdppjfjncaaGreatDoorLi7
import Derived.Test.YtdnlfdppjfjncaaGreatDoorLi8
import Derived.Test.YtdnlfdppjfjncaaGreatDoorLi9
/- (*Parser).parse of a paragraph of some lines, over a plan of its text. -/
namespace Go.Proofs.YtdnlfdppjfjncaaGreatDoor
open Go Go.RowKit Go.Proofs

/-- The open blocks: the document, and a paragraph below it. -/
def twoOB (rv pv : Value) (ea eb : Int) : List OB := [⟨rv, .slice none 0 0, 0, ea⟩, ⟨pv, .slice none 0 0, 1, eb⟩]
theorem twoOB_upd (rv pv : Value) (ea eb m : Int) : updE (twoOB rv pv ea eb) 0 2 m = twoOB rv pv m m := by
  simp [updE, twoOB, List.mapIdx, List.mapIdx.go]

/-- What stands of the document when both blocks are closed. -/
structure ManyClosed (w w' : World) (bp g cap pp k : Nat) (s : ByteArray) : Prop where
  mods : Mods (fun k => k = bp ∨ k = g) w w'
  ex : ∃ rk pk tb tg tc ig ic x y x2 y2, w.heap.size ≤ rk ∧ w.heap.size ≤ pk ∧ w.heap.size ≤ tb ∧
    Blk w' rk #[.int .i64 x, .int .i64 y, .slice (some ⟨ig, 0, none⟩) 1 ic, .map none] 339 ∧
    Blk w' pk #[.int .i64 x2, .int .i64 y2, .pointer (some ⟨tb, 0, none⟩)] 155 ∧
    Blk w' tb #[.int .i64 x2, .int .i64 y2, .slice none 0 0, .string s] 110 ∧
    PsAt w' bp { p2 pp g cap with lineno := (k : Nat), texts := .slice (some ⟨tg, 0, none⟩) 1 tc, stack := .slice (some ⟨g, 0, none⟩) 0 cap, root := .pointer (some ⟨rk, 0, none⟩) } ∧
    w'.ownsRow 0 105 1 (.slice (some ⟨tg, 0, none⟩) 1 tc) 1 [.pointer (some ⟨tb, 0, none⟩)] ∧
    w'.ownsRow 0 68 1 (.slice (some ⟨ig, 0, none⟩) 1 ic) 1 [.iface 153 (.pointer (some ⟨pk, 0, none⟩))]

theorem closed_many (bp g cap pp k gt ct bb : Nat) (v : Option Addr) (ea eb : Int) (ls : List ByteArray) (w : World) (hT : ParaText ls) (hk : ls.length = k)
    (h : ParaL w bp g 1 cap { p2 pp g cap with lineno := (k : Nat) } (twoOB (.iface 98 (.pointer v)) (.iface 162 (.pointer (some ⟨bb, 0, none⟩))) ea eb) bb gt ct k ls) :
    Calls Tryz.prog 65 #[.pointer (some ⟨bp, 0, none⟩), .int .i64 0] w fun e w' => e = .returned (.tuple #[]) ∧ ManyClosed w w' bp g cap pp k (joinT ls) := by
  obtain ⟨l0, r0, hl0⟩ : ∃ l r, ls = l :: r := by
    cases hls : ls with
    | nil => exact absurd hls hT.ne
    | cons l r => exact ⟨l, r, rfl⟩
  have hp0 := hT.pos l0 (by rw [hl0]; simp)
  obtain ⟨hj0, hj1⟩ := joinT_first (r := r0) hp0
  rw [← hl0] at hj0
  have hjf : (joinT ls)[0] = l0[0] := by simpa only [hl0] using hj1
  have hk0 : 0 < k := by rw [← hk, hl0]; simp
  have hkc := hT.count
  have hsm := hT.small
  obtain ⟨_, _, he, ⟨curT, hcurT⟩, _, hc⟩ := ownsRow_form h.txt hk0
  cases he
  have hcap : k ≤ ct := by
    rcases h.txt.2 with ⟨h, _⟩ | ⟨_, _, _, h, _, _, hc, _⟩
    · cases h
    · cases h; exact hc
  have hJ : ∀ W, Same w W → Calls Tryz.prog 29 #[.slice (some ⟨gt, 0, none⟩) k ct, .string ⟨#[10]⟩] W fun e W' => e = .returned (.string (joinT ls)) ∧ Same W W' := by
    intro W hW
    subst hk
    refine (Tryz.strings_Join gt 0 ct ls ⟨#[10]⟩ W ?_ (Nat.lt_of_lt_of_le hcurT.lt hW.size) (by omega) hcap ?_).mono ?_
    · intro j x hx
      have := hc j (.string x) (by rw [List.getElem?_map, hx]; rfl)
      rw [Nat.zero_add]
      exact (World.cell?_of_block (hW.block gt hcurT.lt (fun x => x))).trans this
    · have e1 : (Lib.join (ls.map (·.data.toList)) (⟨#[10]⟩ : ByteArray).data.toList).length = (joinT ls).size := by rw [size_list, joinT_list]
      rw [e1]; omega
    · rintro e w' ⟨h1, h2⟩
      exact ⟨h1, Below.mods h2 (fun k hk hk2 => absurd hk (by omega))⟩
  have h91 : (joinT ls)[0] ≠ 91 := by rw [hjf]; exact hT.no91 l0 r0 hl0 hp0
  have h10 : (joinT ls)[0] ≠ 10 := by rw [hjf]; exact hT.no10 l0 (by rw [hl0]; simp) 0 hp0
  have h9 : (joinT ls)[0] ≠ 9 := by rw [hjf]; exact hT.no9 l0 (by rw [hl0]; simp) 0 hp0
  have h32 : (joinT ls)[0] ≠ 32 := by
    rw [hjf]
    have := hT.first l0 (by rw [hl0]; simp) hp0
    intro h; rw [h] at this; cases this
  have hrow : w.ownsRow 0 121 4 (.slice (some ⟨g, 0, none⟩) (0 + 1 + 1) cap) (0 + 1 + 1) (([] ++ [.iface 98 (.pointer v), .slice none 0 0, .int .i64 0, .int .i64 ea]) ++ [.iface 162 (.pointer (some ⟨bb, 0, none⟩)), .slice none 0 0, .int .i64 1, .int .i64 eb]) := h.row
  have hcl := closePara bp bb g 0 cap 0 0 { p2 pp g cap with lineno := (k : Nat) } [] [] [] (.iface 98 (.pointer v)) (.slice none 0 0) (.slice none 0 0) (.slice (some ⟨gt, 0, none⟩) k ct) 0 ea 1 eb k (joinT ls) w h.at_ rfl (by omega) hrow ⟨rfl, Or.inl ⟨rfl, rfl⟩⟩ (by omega) h.blk ⟨_, _, rfl⟩ (by omega)
    ⟨rfl, Or.inl ⟨rfl, rfl⟩⟩ (by omega) hJ hj0 (by omega) h32 h9 h10 h91 (by omega) (by omega)
  have hgen := trimStack_gen bp 0 (fun j W => match j with
    | 2 => W = w
    | 1 => ∃ u, ParaClosed w W bp g 0 cap 0 0 { p2 pp g cap with lineno := (k : Nat) } [] [] [] (.iface 98 (.pointer v)) (.slice none 0 0) 0 ea 1 (1 + (k : Int) - 1) (joinT ls) u
    | 0 => ManyClosed w W bp g cap pp k (joinT ls)
    | _ => False) (by omega) ?_ ?_ 2 w rfl
  · exact hgen
  · intro j W hP
    match j, hP with
    | 2, hP => subst hP; exact ⟨by omega, _, _, h.at_.stack⟩
    | 1, ⟨u, hPC⟩ =>
      obtain ⟨pk, tb, tg, tc, ig, ic, _, _, _, _, _, h, _⟩ := hPC.ex
      exact ⟨by omega, _, _, h.stack⟩
    | 0, hP =>
      obtain ⟨rk, pk, tb, tg, tc, ig, ic, _, _, _, _, _, _, _, _, _, _, h, _⟩ := hP.ex
      exact ⟨by omega, _, _, h.stack⟩
  · intro j W hP
    match j, hP with
    | 1, hP => subst hP; exact hcl.mono fun e w' ⟨v1, h1, h2⟩ => ⟨v1, h1, v1, h2⟩
    | 0, ⟨u, hPC⟩ =>
      obtain ⟨pk, tb, tg, tc, ig, ic, _, hpk, htb, hPb, hTb, hps, htx, hrow, hin⟩ := hPC.ex
      refine (closeRoot bp g cap _ v (some ⟨ig, 0, none⟩) 1 ic none 0 ea W hps rfl hrow rfl).mono ?_
      rintro e W' ⟨u', rfl, hm, rk, hrk, hR, hps'⟩
      have h1 := hPC.mods.size
      have hne : ∀ {b : Nat} {cs : Array Value} {T : Nat}, Blk W b cs T → T ≠ 95 → ¬ (b = bp) := fun h hT => by
        obtain ⟨tail, htl⟩ := id hps
        exact h.ne_of_type htl hT
      refine ⟨u', rfl, ?_, rk, pk, tb, tg, tc, ig, ic, _, _, _, _, by omega, hpk, htb, hR, hPb.keep hm (hne hPb (by decide)), hTb.keep hm (hne hTb (by decide)), hps', ?_, ?_⟩
      · refine (hPC.mods.mono (fun k _ h => ?_)).trans (hm.mono (fun _ _ h => Or.inl h))
        rcases h with h | h | h | h
        · exact Or.inl h
        · exact Or.inr h
        · cases h
        · cases h
      · exact ownsRow_keep htx hm (fun k hk x => own_ne_ps htx hps (by decide) (by rw [← x]; exact hk))
      · exact ownsRow_keep hin hm (fun k hk x => own_ne_ps hin hps (by decide) (by rw [← x]; exact hk))
end Go.Proofs.YtdnlfdppjfjncaaGreatDoor

/- (*Parser).parse of a paragraph of some lines: a line is read. -/
namespace Go.Proofs.YtdnlfdppjfjncaaGreatDoor
open Go Go.RowKit Go.Proofs

def rootV (v : Option Addr) : Value := .iface 98 (.pointer v)

/-- What has been read behind j lines, seen from the world w. -/
structure Rd (w wr : World) (bp pp : Nat) (v : Option Addr) (ls : List ByteArray) (j : Nat) : Prop where
  same : Same w wr
  ex : ∃ g cap, w.heap.size ≤ g ∧
    ((j = 0 ∧ PsAt wr bp { p0 pp with stack := .slice (some ⟨g, 0, none⟩) 1 cap } ∧ wr.ownsRow 0 121 4 (.slice (some ⟨g, 0, none⟩) 1 cap) 1 [rootV v, .slice none 0 0, .int .i64 0, .int .i64 0]) ∨
     (0 < j ∧ ∃ bb gt ct ea eb, w.heap.size ≤ bb ∧ w.heap.size ≤ gt ∧
       ParaL wr bp g 1 cap { p2 pp g cap with lineno := (j : Nat) } (twoOB (rootV v) (.iface 162 (.pointer (some ⟨bb, 0, none⟩))) ea eb) bb gt ct j (ls.take j)))

theorem Rd.line {w wr : World} {bp pp : Nat} {v : Option Addr} {ls : List ByteArray} {j : Nat} (h : Rd w wr bp pp v ls j) :
    wr.cell? ⟨bp, 3, none⟩ = some (.int .i64 j) ∧ wr.frozen? ⟨bp, 3, none⟩ = false ∧ bp < wr.heap.size := by
  obtain ⟨g, cap, _, ⟨hj, hp, _⟩ | ⟨_, bb, gt, ct, ea, eb, _, _, hP⟩⟩ := h.ex
  · subst hj
    exact ⟨hp.lineno, hp.fr 3, hp.lt⟩
  · exact ⟨hP.at_.lineno, hP.at_.fr 3, hP.at_.lt⟩

theorem ParaL.setLine {w : World} {bp g n cap : Nat} {p : PSt} {L : List OB} {bb gt ct m : Nat} {xs : List ByteArray} (h : ParaL w bp g n cap p L bb gt ct m xs) (k : Int) :
    ParaL (w.setCell ⟨bp, 3, none⟩ (.int .i64 k)) bp g n cap { p with lineno := k } L bb gt ct m xs ∧ Mods (fun k => k = bp) w (w.setCell ⟨bp, 3, none⟩ (.int .i64 k)) := by
  have hm : Mods (fun k => k = bp) w (w.setCell ⟨bp, 3, none⟩ (.int .i64 k)) := (Mods.refl (fun k => k = bp) w).setCell (p := ⟨bp, 3, none⟩) (fun _ => rfl) _
  obtain ⟨tail, htl⟩ := id h.at_
  exact ⟨⟨h.at_.set 3 _ { p with lineno := k } rfl (by decide), h.stack, h.small, h.len, ownsRow_keep h.row hm (fun b hb x => by cases hb; exact htl.own_ne h.row (by decide) x.symm), h.top,
    h.blk.keep1 hm (h.blk.ne_of_type htl (by decide)), ownsRow_keep h.txt hm (fun b hb x => by cases hb; exact htl.own_ne h.txt (by decide) x.symm)⟩, hm⟩

theorem take_succ_get {ls : List ByteArray} {j : Nat} {l : ByteArray} (h : ls[j]? = some l) : ls.take (j + 1) = ls.take j ++ [l] := by
  rw [List.take_add_one, h]; rfl

theorem rd_step (w wr : World) (bp pp : Nat) (v : Option Addr) (ls : List ByteArray) (j : Nat) (l : ByteArray) (nl : Int) (hT : ParaText ls) (h : Rd w wr bp pp v ls j) (hj : ls[j]? = some l) (hO : Off w pp) (hbp : w.heap.size ≤ bp) :
    Calls Tryz.prog 64 #[.pointer (some ⟨bp, 0, none⟩), LV 0 l nl] (wr.setCell ⟨bp, 3, none⟩ (.int .i64 ((j : Int) + 1))) fun e w2 => e = .returned (.tuple #[]) ∧ Rd w w2 bp pp v ls (j + 1) := by
  have hmem : l ∈ ls := List.mem_of_getElem? hj
  have hjl : j < ls.length := (List.getElem?_eq_some_iff.1 hj).1
  have hcnt := hT.count
  have hpos := hT.pos l hmem
  have hfst := hT.first l hmem hpos
  have hsz := joinT_le ls l hmem
  have hsm := hT.small
  have hs6 : l.size ≤ 1000000 := by omega
  have hTx : Txt l := ⟨hs6, hT.no9 l hmem⟩
  have hpl := hO.lt
  obtain ⟨hsame, g, cap, hgw, hst⟩ := h
  have hws := hsame.size
  have hOr := hO.same hsame
  rcases hst with ⟨hj0, hp, hown⟩ | ⟨hj0, bb, gt, ct, ea, eb, hbb, hgt, hP⟩
  · subst hj0
    have hls : ∃ r, ls = l :: r := by
      cases hls : ls with
      | nil => rw [hls] at hj; cases hj
      | cons a r => rw [hls] at hj; exact ⟨r, by rw [Option.some.inj hj]⟩
    obtain ⟨r, hls⟩ := hls
    have hm : Mods (fun k => k = bp) wr (wr.setCell ⟨bp, 3, none⟩ (.int .i64 (((0 : Nat) : Int) + 1))) := (Mods.refl (fun k => k = bp) wr).setCell (p := ⟨bp, 3, none⟩) (fun _ => rfl) _
    have hpY : PsAt (wr.setCell ⟨bp, 3, none⟩ (.int .i64 (((0 : Nat) : Int) + 1))) bp { p0 pp with lineno := 1, stack := .slice (some ⟨g, 0, none⟩) 1 cap } := hp.set 3 _ _ rfl (by decide)
    have hownY := ownsRow_keep hown hm (fun k hk x => own_ne_ps hown hp (by decide) (by rw [← x]; exact hk))
    generalize (wr.setCell ⟨bp, 3, none⟩ (.int .i64 (((0 : Nat) : Int) + 1)) : World) = Y at *
    have hppb : pp ≠ bp := by omega
    have hOY : Opt Y { p0 pp with lineno := 1, stack := .slice (some ⟨g, 0, none⟩) 1 cap } 5 false := (hOr.opt rfl 5 (by omega)).keep hm hppb
    have hNP : NoPara Y bp g 0 cap { p0 pp with lineno := 1, stack := .slice (some ⟨g, 0, none⟩) 1 cap } 98 (.pointer v) := ⟨hpY, rfl, by omega, (row_cells (n := 0) (l := []) hownY).1, by decide⟩
    refine (addLine_first bp g cap _ _ _ _ l nl Y hNP hs6 (blankAt_id hpos hfst) hOY hownY hppb (fun V hV => triesNo_begins bp g 0 cap _ _ _ l 0 nl V hV rfl (by decide) (Nat.zero_le _) hTx (hT.begins l r hls))).mono ?_
    rintro e w2 ⟨rfl, hPN⟩
    rw [trimL_id hpos hfst] at hPN
    obtain ⟨hm2, g2, cap2, bb, tv, a1, a2, a3, a4, a5, a6, a7⟩ := hPN
    obtain ⟨gt, ct, rfl, ⟨cu, hcu⟩, _, _⟩ := ownsRow_form a4 (by omega)
    have hYs := hm.size
    have hsame2 : Same w w2 := (hsame.then hm (fun b hb x => by omega)).then hm2 (fun b hb x => by
      rcases x with x | x
      · omega
      · have hh : g = b := Option.some.inj x
        omega)
    have hg2 : w.heap.size ≤ g2 := by
      by_cases hlt : g2 < Y.heap.size
      · have hh : g = g2 := Option.some.inj (a6 hlt)
        omega
      · omega
    refine ⟨rfl, hsame2, g2, cap2, hg2, Or.inr ⟨by omega, bb, gt, ct, 0, 1, by omega, ?_, ⟨a1, rfl, by omega, rfl, a2, ⟨_, rfl, rfl⟩, a3, ?_⟩⟩⟩
    · have := a7 gt rfl
      omega
    · rw [hls]; exact a4
  · have hd := hP.setLine ((j : Int) + 1)
    have hcast : ((j : Int) + 1) = ((j + 1 : Nat) : Int) := by omega
    rw [hcast] at hd ⊢
    obtain ⟨hPY, hm⟩ := hd
    generalize (wr.setCell ⟨bp, 3, none⟩ (.int .i64 ((j + 1 : Nat) : Int)) : World) = Y at *
    have hOY : Opt Y { p2 pp g cap with lineno := ((j + 1 : Nat) : Int) } 5 false := (hOr.opt (p := { p2 pp g cap with lineno := ((j + 1 : Nat) : Int) }) rfl 5 (by omega)).keep hm (by show pp ≠ bp; omega)
    have hgoes : Goes l := by
      obtain ⟨l0, r0, hl0⟩ : ∃ l r, ls = l :: r := by
        cases hls : ls with
        | nil => exact absurd hls hT.ne
        | cons a r => exact ⟨a, r, rfl⟩
      refine hT.goes l0 r0 hl0 l ?_
      rw [hl0] at hj
      obtain ⟨i, rfl⟩ : ∃ i, j = i + 1 := ⟨j - 1, by omega⟩
      exact List.mem_of_getElem? (by simpa using hj)
    refine (addLine_cont bp g cap _ _ bb gt ct j (ls.take j) l nl Y hPY hs6 (blankAt_id hpos hfst) hOY (by show pp ≠ bp; omega) (by show pp ≠ g; omega) hj0 (by omega)
      (fun W hW => triesNo_cont bp g cap _ _ bb gt ct j _ l nl W hW rfl _ _ _ rfl rfl (by decide) hTx hgoes)).mono ?_
    rintro e w2 ⟨rfl, hm2, gt2, ct2, hP2, hgt2⟩
    rw [trimL_id hpos hfst, ← take_succ_get hj] at hP2
    have hYs := hm.size
    refine ⟨rfl, ?_, g, cap, hgw, Or.inr ⟨by omega, bb, gt2, ct2, ((j + 1 : Nat) : Int), ((j + 1 : Nat) : Int), hbb, ?_, ?_⟩⟩
    · exact (hsame.then hm (fun b hb x => by omega)).then hm2 (fun b hb x => by omega)
    · rcases hgt2 with h | h
      · rw [h]; exact hgt
      · omega
    · rw [twoOB_upd] at hP2
      exact hP2
end Go.Proofs.YtdnlfdppjfjncaaGreatDoor

/- (*Parser).parse of a paragraph of some lines: the walk. -/
namespace Go.Proofs.YtdnlfdppjfjncaaGreatDoor
open Go Go.RowKit Go.Proofs

theorem Rd.same_world {w wr wx : World} {bp pp : Nat} {v : Option Addr} {ls : List ByteArray} {j : Nat} (h : Rd w wr bp pp v ls j) (hm : Same wr wx) : Rd w wx bp pp v ls j := by
  obtain ⟨h1, g, cap, h2, ⟨h3, h4, h5⟩ | ⟨h3, bb, gt, ct, ea, eb, h4, h5, h6⟩⟩ := h
  · exact ⟨h1.trans hm, g, cap, h2, Or.inl ⟨h3, h4.same hm, ownsRow_keep h5 hm (fun _ _ x => x)⟩⟩
  · exact ⟨h1.trans hm, g, cap, h2, Or.inr ⟨h3, bb, gt, ct, ea, eb, h4, h5, h6.same hm⟩⟩

theorem joinT_pos {ls : List ByteArray} (hT : ParaText ls) : 0 < (joinT ls).size := by
  obtain ⟨l, r, rfl⟩ : ∃ l r, ls = l :: r := by
    cases ls with
    | nil => exact absurd rfl hT.ne
    | cons l r => exact ⟨l, r, rfl⟩
  exact (joinT_first (r := r) (hT.pos l (by simp))).1

theorem joinT_firstW {ls : List ByteArray} (hT : ParaText ls) (h : 0 < (joinT ls).size) : isW (joinT ls)[0] = false := by
  obtain ⟨l, r, rfl⟩ : ∃ l r, ls = l :: r := by
    cases ls with
    | nil => exact absurd rfl hT.ne
    | cons l r => exact ⟨l, r, rfl⟩
  have hp := hT.pos l (by simp)
  obtain ⟨h1, h2⟩ := joinT_first (r := r) hp
  rw [h2]
  exact hT.first l (by simp) hp

theorem joinT_not {ls : List ByteArray} {c : UInt8} (hc : c ≠ 10) (h : ∀ l ∈ ls, ∀ i (hi : i < l.size), l[i] ≠ c) : ∀ i (hi : i < (joinT ls).size), (joinT ls)[i] ≠ c := by
  intro i hi e
  rcases joinT_mem ls c (by rw [← e]; exact get_mem hi) with h' | ⟨l, hl, h'⟩
  · exact hc h'
  · obtain ⟨k, hk, hk2⟩ := mem_get h'
    exact h l hl k hk hk2

set_option maxRecDepth 100000 in
set_option maxHeartbeats 8000000 in
theorem parse_many (pp : Nat) (ls : List ByteArray) (w : World) (hT : ParaText ls) (all : List Pc) (hg : Plan (joinT ls) 0 0 all) (hO : Off w pp) :
    Calls Tryz.prog 51 #[.pointer (some ⟨pp, 0, none⟩), .string (joinT ls)] w fun e w' => ∃ bp rk c, e = .returned (.tuple #[.pointer (some ⟨rk, 0, none⟩), .bool c]) ∧ DocAt w w' bp rk pp (joinT ls) all := by
  have hpos := joinT_pos hT
  have hsm := hT.small
  have hs6 : (joinT ls).size ≤ 1000000 := by omega
  have i0 := idx1_none (joinT_not (c := 0) (by decide) hT.no0)
  have hfirstT := joinT_firstW hT hpos
  have hlastT := hT.last hpos
  go_enter Tryz.func51, Tryz.ntmps51
  go_wp2_with fail
  refine (zzContains_any (joinT ls) 0 _ hs6).mono ?_
  rintro e w' ⟨rfl, rfl⟩
  rw [i0]
  generalize hW : (World.alloc _ _ : World) = W
  have hm0 : Same w W := by subst hW; exact (Mods.refl _ w).alloc _
  have hp0 : PsAt W w.heap.size { p0 pp with depth := 0 } := by
    subst hW
    exact ⟨Tryz.zeroCells95.toList.drop 12, Blk.newAt _ _ rfl⟩
  clear hW
  generalize hbp : w.heap.size = bp at *
  have k5 := hp0.depth
  have f5 := hp0.fr 5
  have hbl := hp0.lt
  go_wp2_with fail
  generalize hX : (World.alloc (World.setCell _ _ _) _ : World) = X
  have hmX : Same w X := by
    subst hX
    exact (hm0.setCell (p := ⟨bp, 5, none⟩) (fun h => absurd h (Nat.not_lt.2 (Nat.le_of_eq hbp))) _).alloc _
  have hpX : PsAt X bp (p0 pp) := by
    subst hX
    exact PsAt.alloc (hp0.set 5 (.int .i64 (-1)) (p0 pp) rfl (by decide)) _
  clear hX
  refine (addBlock_any bp 0 0 none (p0 pp) _ (.pointer (some ⟨W.heap.size, 0, none⟩)) [] (-1) X hpX rfl (by omega) rfl rfl ⟨rfl, Or.inl ⟨rfl, rfl⟩⟩ (fun g h => by cases h) rfl).mono ?_
  rintro e w1 ⟨rfl, hm1, g, cap, hp1, hown1, hgl1⟩
  have hmw1 : Same w w1 := hmX.then hm1 (fun b hb h => by
    rcases h with h | h
    · omega
    · cases h)
  have hXs := hmX.size
  have hgw : w.heap.size ≤ g := by
    by_cases h : g < X.heap.size
    · cases hgl1 h
    · omega
  have hR0 : Rd w w1 bp pp (some ⟨W.heap.size, 0, none⟩) ls 0 := ⟨hmw1, g, cap, hgw, Or.inl ⟨rfl, hp1, hown1⟩⟩
  clear k5 f5 hbl hm0 hp0 hmX hpX hm1 hp1 hown1 hgl1 hmw1 hXs hgw
  go_wp2_with fail
  go_loopg [1] ls.length (fun k v1 wr => ∃ j : Nat, k = ls.length - j ∧ j ≤ ls.length ∧ v1 = .string (joinT (ls.drop j)) ∧ Rd w wr bp pp (some ⟨W.heap.size, 0, none⟩) ls j)
  case atStart => exact ⟨0, rfl, Nat.zero_le _, by rw [List.drop_zero], hR0⟩
  case round =>
    clear hR0
    obtain ⟨j, hk, hj, rfl, hR⟩ := hrel
    have HK := Lib.hid hk
    clear hk
    by_cases hlt : j < ls.length
    · obtain ⟨l, hl⟩ : ∃ l, ls[j]? = some l := ⟨_, List.getElem?_eq_getElem hlt⟩
      have hdrop : ls.drop j = l :: ls.drop (j + 1) := by
        rw [List.drop_eq_getElem_cons hlt]
        congr 1
        exact Option.some.inj ((List.getElem?_eq_getElem hlt).symm.trans hl)
      obtain ⟨k3, f3, l3⟩ := hR.line
      have hle := joinT_drop_le ls j
      have hdl : ∀ x ∈ ls.drop j, x ∈ ls := fun x hx => List.mem_of_mem_drop hx
      have i13 := idx1_none (joinT_not (ls := ls.drop j) (c := 13) (by decide) (fun x hx => hT.no13 x (hdl x hx)))
      have hlmem : l ∈ ls := List.mem_of_getElem? hl
      have hp := hT.pos l hlmem
      have h10l := hT.no10 l hlmem
      have hs7 : (joinT (ls.drop j)).size ≤ 1000000 := by omega
      have w3 : IntKind.i64.wrap ((j : Int) + 1) = (j : Int) + 1 := IntWalk.i64_in _ (by have := hT.count; omega)
      have STEP := Lib.hid (fun nl wx (hx : Same wr wx) => rd_step w wx bp pp _ ls j l nl hT (hR.same_world hx) hl hO (Nat.le_of_eq hbp))
      cases hr : ls.drop (j + 1) with
      | nil =>
        rw [hr] at hdrop
        rw [hdrop, joinT_one] at *
        have i10 := idx1_none h10l
        have e0 : l.toList.isEmpty = false := bs_ne hp
        have e0' : (!l.toList.isEmpty) = true := by rw [e0]; rfl
        clear hR hle hdl hlmem h10l hdrop
        go_wp2_with fail
        refine (zzIndex_any l 10 _ hs7).mono ?_
        rintro e w' ⟨rfl, rfl⟩
        rw [i10]
        go_wp2_with fail
        refine (zzIndex_any l 13 _ hs7).mono ?_
        rintro e w' ⟨rfl, rfl⟩
        rw [i13]
        go_wp2_with fail
        refine (STEP.out _ wr (Mods.refl _ wr)).mono ?_
        rintro e w2 ⟨rfl, hR2⟩
        go_wp2_with fail
        go_roundg (ls.length - (j + 1))
        case measure => have := HK.out; omega
        case rel => exact ⟨j + 1, rfl, hlt, by rw [hr]; rfl, hR2⟩
      | cons y r =>
        rw [hr] at hdrop
        rw [hdrop] at hle hdl i13 hs7
        rw [hdrop]
        have i10 : idx1 (joinT (l :: y :: r)) 10 = (l.size : Int) := idx_first h10l
        have hx1 := ext_first l y r
        have hx2 := ext_rest l y r
        have hsz := joinT_size2 l y r
        have hp2 : 0 < (joinT (l :: y :: r)).size := by omega
        have e0 : (joinT (l :: y :: r)).toList.isEmpty = false := bs_ne hp2
        have e0' : (!(joinT (l :: y :: r)).toList.isEmpty) = true := by rw [e0]; rfl
        have v1 : (l.size : Int) + 1 ≤ (joinT (l :: y :: r)).size := by omega
        have v2 : (l.size : Int) ≤ (joinT (l :: y :: r)).size := by omega
        have v3 : ¬ ((l.size : Int) < 0) := by omega
        have v4 : (0 : Int) ≤ l.size := by omega
        have v5 : IntKind.i64.wrap ((l.size : Int) + 1) = (l.size : Int) + 1 := IntWalk.i64_in _ (by omega)
        have v6 : ((l.size : Int) + 1).toNat = l.size + 1 := by omega
        have v7 : (0 : Int) ≤ (l.size : Int) + 1 := by omega
        have HX2 := Lib.hid hx2
        generalize hJ : joinT (l :: y :: r) = J at *
        clear hR hle hdl hlmem h10l hdrop hJ hsz
        go_wp2_with fail
        refine (zzIndex_any J 10 _ hs7).mono ?_
        rintro e w' ⟨rfl, rfl⟩
        rw [i10]
        go_wp2_with fail
        refine (zzIndex_any J 13 _ hs7).mono ?_
        rintro e w' ⟨rfl, rfl⟩
        rw [i13]
        go_wp2_with fail
        first | go_quiet (fail) | skip
        go_wp2_with fail
        refine (STEP.out 10 _ ((Mods.refl _ wr).drewN nq)).mono ?_
        rintro e w2 ⟨rfl, hR2⟩
        go_wp2_with fail
        go_roundg (ls.length - (j + 1))
        case measure => have := HK.out; omega
        case rel => exact ⟨j + 1, rfl, hlt, by rw [hr, ← HX2.out], hR2⟩
    · have hjl : j = ls.length := by omega
      subst hjl
      rw [List.drop_length]
      obtain ⟨hmw2, g, cap, hgw, ⟨h0, _, _⟩ | ⟨_, bb, gt, ct, ea, eb, hbb, hgt, hP⟩⟩ := hR
      · exact absurd (List.length_eq_zero_iff.1 h0) hT.ne
      rw [List.take_length] at hP
      have e0 : (joinT ([] : List ByteArray)).toList.isEmpty = true := by simp [joinT, Lib.join, ByteArray.toList_eq]
      have e0' : (!(joinT ([] : List ByteArray)).toList.isEmpty) = false := by rw [e0]; rfl
      go_wp2_with fail
      refine (closed_many bp g cap pp ls.length gt ct bb (some ⟨W.heap.size, 0, none⟩) ea eb ls wr hT rfl hP).mono ?_
      rintro e w3 ⟨rfl, hTw⟩
      have hmw3 : Same w w3 := hmw2.then hTw.mods (fun b hb h => by omega)
      have hrs := hmw2.size
      obtain ⟨rk, pk, tb, tg, tc, ig, ic, x, y, x2, y2, hrk, hpk, htb, hRb, hPk, hTb, hps, htx, hin⟩ := hTw.ex
      clear hTw hP hmw2
      have k11 := hps.texts
      go_wp2_with fail
      go_loopg [83] 1 (fun k v83 wr2 => (k = 1 ∧ v83 = .int .i64 0 ∧ wr2 = w3) ∨ (k = 0 ∧ v83 = .int .i64 1 ∧ DocAt w wr2 bp rk pp (joinT ls) all))
      case atStart => exact Or.inl ⟨rfl, rfl, rfl⟩
      case round =>
        rcases hrel with ⟨rfl, rfl, rfl⟩ | ⟨rfl, rfl, hDA⟩
        · obtain ⟨_, _, he, _, _, hc⟩ := ownsRow_form htx (by omega)
          cases he
          have t0 := hc 0 _ rfl
          have r3 := hTb.cell 3
          go_wp2_with fail
          have hOw : Opt wr _ 3 false := (hO.same hmw3).opt (p := { p2 pp g cap with lineno := (ls.length : Nat), texts := .slice (some ⟨tg, 0, none⟩) 1 tc, stack := .slice (some ⟨g, 0, none⟩) 0 cap, root := .pointer (some ⟨rk, 0, none⟩) }) rfl 3 (by omega)
          refine (inline_any bp _ (joinT ls) wr hps hsm hpos all hg hOw (by have := hO.lt; show pp ≠ bp; omega) (trimSpaceTab_id (joinT ls) wr hs6 hpos hfirstT hlastT)).mono ?_
          rintro e w4 ⟨gl, n, lc, xs, rfl, hn0, hn1, c4, hH⟩
          have hTne : tb ≠ bp := by
            obtain ⟨tail, htl⟩ := id hps
            exact hTb.ne_of_type htl (by decide)
          have hT4 := hTb.keep1 hH.mods hTne
          have c2 : w4.cell? ⟨tb, 2, none⟩ = some (.slice none 0 0) := hT4.cell 2
          have f2 := hT4.fr 2
          have l2 := hT4.lt
          go_wp2_with fail
          go_roundg 0
          case measure => omega
          case rel => exact Or.inr ⟨rfl, rfl, docAt_mk hmw3 (by omega) (by omega) hps hRb hPk hTb hin hH hn0 hn1 rfl⟩
        · have hoff := (hO.same hDA.mods).opt (p := p0 pp) rfl 2 (by omega)
          have o2 : wr.cell? ⟨pp, 2, none⟩ = some (.bool false) := hoff.cell
          obtain ⟨q, hq, hq1⟩ := id hDA.ps
          have k1 := hq.root
          have k6 := hq.corner
          rw [hq1] at k1
          go_wp2_with fail
          go_quiet (fail)
          go_wp2_with fail
          go_ret2
          exact ⟨bp, rk, _, rfl, hDA.same ((Mods.refl _ wr).drewN nq)⟩
end Go.Proofs.YtdnlfdppjfjncaaGreatDoor

/- HTML of a paragraph of some lines. -/
namespace Go.Proofs.YtdnlfdppjfjncaaGreatDoor
open Go Go.RowKit Go.Proofs

theorem parser_Parse_many (pp : Nat) (ls : List ByteArray) (w : World) (hT : ParaText ls) (all : List Pc) (hg : Plan (joinT ls) 0 0 all) (hO : Off w pp) :
    Calls Tryz.prog 39 #[.pointer (some ⟨pp, 0, none⟩), .string (joinT ls)] w fun e w' => ∃ bp rk, e = .returned (.pointer (some ⟨rk, 0, none⟩)) ∧ DocAt w w' bp rk pp (joinT ls) all := by
  go_enter Tryz.func39, Tryz.ntmps39
  go_wp2_with fail
  refine (parse_many pp ls w hT all hg hO).mono ?_
  rintro e w' ⟨bp, rk, c, rfl, hD⟩
  go_wp2_with fail
  go_ret
  exact ⟨bp, rk, rfl, hD⟩

theorem impl_HTML_many (ls : List ByteArray) (w : World) (hT : ParaText ls) (all : List Pc) (hg : Plan (joinT ls) 0 0 all)
    (hlim : ∀ i, ((([] : List UInt8) ++ pOpen) ++ ((all).take i).flatMap outPc).length ≤ 10000000) (hsz : ∀ t, Pc.plain t ∈ all ∨ Pc.esc t ∈ all ∨ Pc.tag t ∈ all → t.size ≤ 1000000) (hau : ∀ t u, Pc.auto t u ∉ all) :
    Calls Tryz.prog 17 #[.agg #[.bool false, .bool false, .bool false, .bool false, .bool false, .bool false, .bool false, .bool false, .bool false, .bool false], .string (joinT ls)] w fun e w' => e = .returned (.string ⟨(pOpen ++ (all).flatMap outPc ++ pClose).toArray⟩) ∧ Same w w' :=
  impl_HTML_of (joinT ls) w hT.small all (fun pp w1 hO => parser_Parse_many pp ls w1 hT all hg hO) hlim hsz hau
end Go.Proofs.YtdnlfdppjfjncaaGreatDoor

/- A plan for a text with signs behind backslashes and line feeds; what its pieces print. -/
namespace Go.Proofs.YtdnlfdppjfjncaaGreatDoor
open Go Go.RowKit Go.Proofs

/-- The pieces are no longer than the text, and none is a link. -/
structure Fit (s : ByteArray) (all : List Pc) : Prop where
  sz : ∀ u, Pc.plain u ∈ all ∨ Pc.esc u ∈ all ∨ Pc.tag u ∈ all → u.size ≤ s.size
  au : ∀ t u, Pc.auto t u ∉ all

theorem Fit.nil (s : ByteArray) : Fit s [] := ⟨fun u h => by simp at h, fun _ _ h => by simp at h⟩
theorem Fit.app {s : ByteArray} {a b : List Pc} (h1 : Fit s a) (h2 : Fit s b) : Fit s (a ++ b) := by
  refine ⟨fun u h => ?_, fun t u h => ?_⟩
  · simp only [List.mem_append] at h
    rcases h with (h | h) | (h | h) | (h | h)
    · exact h1.sz u (Or.inl h)
    · exact h2.sz u (Or.inl h)
    · exact h1.sz u (Or.inr (Or.inl h))
    · exact h2.sz u (Or.inr (Or.inl h))
    · exact h1.sz u (Or.inr (Or.inr h))
    · exact h2.sz u (Or.inr (Or.inr h))
  · rcases List.mem_append.1 h with h | h
    · exact h1.au t u h
    · exact h2.au t u h
theorem Fit.cut (s : ByteArray) (e k : Nat) : Fit s (if e < k then [.plain (s.extract e k)] else []) := by
  split
  · refine ⟨fun u h => ?_, fun _ _ h => by simp at h⟩
    have : u = s.extract e k := by simpa using h
    subst this
    rw [ByteArray.size_extract]; omega
  · exact Fit.nil s
theorem Fit.esc (s : ByteArray) (i j : Nat) : Fit s [.esc (s.extract i j)] := by
  refine ⟨fun u h => ?_, fun _ _ h => by simp at h⟩
  have : u = s.extract i j := by simpa using h
  subst this
  rw [ByteArray.size_extract]; omega
theorem Fit.soft (s : ByteArray) : Fit s [.soft] := ⟨fun u h => by simp at h, fun _ _ h => by simp at h⟩

theorem cut_out (s : ByteArray) {e k : Nat} (he : e ≤ k) : (if e < k then [Pc.plain (s.extract e k)] else []).flatMap outPc = (s.extract e k).data.toList.flatMap escB := by
  by_cases hlt : e < k
  · rw [if_pos hlt]
    simp only [List.flatMap_cons, List.flatMap_nil, out_plain, List.append_nil]
  · rw [if_neg hlt]
    have : e = k := by omega
    rw [this, ext_none]
    rfl

/-- No white space stands beside a line feed. -/
def NoW (s : ByteArray) : Prop := ∀ k (h : k < s.size), s[k] = 10 → 0 < k ∧ ∃ h' : k + 1 < s.size, isW (s[k - 1]'(by omega)) = false ∧ isW s[k + 1] = false

theorem plan_sl (s : ByteArray) (hs : s.size ≤ 1000000) (hW : NoW s) : ∀ (l : List UInt8) (k e : Nat), e ≤ k → k ≤ s.size → (∀ c ∈ l, Pr c ∨ c = 10) → from_ s k = slL l →
    ∃ all, Plan s k e all ∧ all.flatMap outPc = (s.extract e k).data.toList.flatMap escB ++ l.flatMap escB ∧ Fit s all
  | [], k, e, he, hk, _, h => by
    have hke := from_nil hk h
    subst hke
    exact ⟨_, Plan.fin e, by rw [cut_out s he]; simp, Fit.cut s e s.size⟩
  | c :: l, k, e, he, hk, hp, h => by
    have hp2 : ∀ x ∈ l, Pr x ∨ x = 10 := fun x hx => hp x (List.mem_cons_of_mem _ hx)
    rw [sl_cons] at h
    unfold slB at h
    by_cases hc : punct c = true
    · rw [if_pos hc] at h
      obtain ⟨h1, e1, h2⟩ := from_cons h
      obtain ⟨h3, e3, h4⟩ := from_cons h2
      obtain ⟨r, r1, r2, r3⟩ := plan_sl s hs hW l (k + 2) (k + 2) (Nat.le_refl _) (by omega) hp2 h4
      refine ⟨_, Plan.piece h1 _ (Or.inl ⟨e1, rfl⟩) _ k (k + 2) he (Nat.le_refl _) (by omega) (by omega) (esc_call s k h3 hs (by rw [e3]; exact hc)) (fun _ h => by cases h) r1, ?_, ?_⟩
      · have hx : (s.extract (k + 1) (k + 2)).data.toList = [c] := by rw [ext1 s (k + 1) h3, e3]
        rw [List.flatMap_append, cut_out s he, List.flatMap_cons, r2, ext_none, out_esc, hx]
        simp only [List.flatMap_cons, List.flatMap_nil, List.append_nil, List.nil_append]
      · exact (Fit.cut s e k).app ((Fit.esc s (k + 1) (k + 2)).app r3)
    · rw [if_neg hc] at h
      obtain ⟨h1, e1, h2⟩ := from_cons h
      by_cases h10 : c = 10
      · obtain ⟨w1, w2, w3, w4⟩ := hW k h1 (by rw [e1]; exact h10)
        obtain ⟨r, r1, r2, r3⟩ := plan_sl s hs hW l (k + 1) (k + 1) (Nat.le_refl _) (by omega) hp2 h2
        refine ⟨_, Plan.piece h1 _ (Or.inr (Or.inr ⟨by rw [e1]; exact h10, rfl⟩)) _ k (k + 1) he (Nat.le_refl _) (by omega) (by omega) (soft_call s k w1 w2 hs w3 w4) (fun _ h => by cases h) r1, ?_, ?_⟩
        · rw [List.flatMap_append, cut_out s he, List.flatMap_cons, r2, ext_none, List.flatMap_cons, h10]
          rfl
        · exact (Fit.cut s e k).app ((Fit.soft s).app r3)
      · have hpr : Pr c := (hp c List.mem_cons_self).resolve_right h10
        obtain ⟨r, r1, r2, r3⟩ := plan_sl s hs hW l (k + 1) e (by omega) (by omega) hp2 h2
        refine ⟨r, Plan.dull h1 (by rw [e1]; exact dull_of hpr (by simpa using hc)) r1, ?_, r3⟩
        rw [r2, ext_snoc he h1, e1]
        simp only [List.flatMap_append, List.flatMap_cons, List.flatMap_nil, List.append_nil, List.append_assoc]
end Go.Proofs.YtdnlfdppjfjncaaGreatDoor

/- FnLiteralLines: the law's own functions over lines: zzFits2, joined. -/
namespace Go.Proofs.YtdnlfdppjfjncaaGreatDoor
open Go Go.RowKit Go.Proofs

/-- A slice of strings stands in the world. -/
def StrsAt (w : World) (v : Value) (ls : List ByteArray) : Prop :=
  (v = .slice none 0 0 ∧ ls = []) ∨ ∃ a cap, v = .slice (some a) ls.length cap ∧ ∀ i x, ls[i]? = some x → w.cell? (a.add i) = some (.string x)

theorem StrsAt.form {w : World} {v : Value} {ls : List ByteArray} (h : StrsAt w v ls) : ∃ a cap, v = .slice a ls.length cap := by
  rcases h with ⟨h1, h2⟩ | ⟨a, cap, h1, _⟩
  · subst h2
    exact ⟨none, 0, h1⟩
  · exact ⟨_, _, h1⟩
theorem StrsAt.some {w : World} {v : Value} {ls : List ByteArray} (h : StrsAt w v ls) (hl : ls ≠ []) : ∃ a cap, v = .slice (some a) ls.length cap ∧ ∀ i x, ls[i]? = some x → w.cell? (a.add i) = some (.string x) := by
  rcases h with ⟨h1, h2⟩ | h
  · exact absurd h2 hl
  · exact h

def fitsB (ls : List ByteArray) : Bool := decide (ls.length ≤ 2147483647) && ls.all (fun l => decide (l.size ≤ 2147483647))
theorem fitsB_of {ls : List ByteArray} (h1 : ls.length ≤ 2147483647) (h2 : ∀ l ∈ ls, l.size ≤ 2147483647) : fitsB ls = true := by
  simp only [fitsB, Bool.and_eq_true, decide_eq_true_eq, List.all_eq_true]
  exact ⟨h1, h2⟩
theorem fitsB_len {ls : List ByteArray} (h1 : 2147483647 < ls.length) : fitsB ls = false := by
  have : ¬ (ls.length ≤ 2147483647) := by omega
  simp only [fitsB, decide_eq_false this, Bool.false_and]
theorem fitsB_big {ls : List ByteArray} {l : ByteArray} (hl : l ∈ ls) (h1 : 2147483647 < l.size) : fitsB ls = false := by
  rw [Bool.eq_false_iff]
  intro h
  simp only [fitsB, Bool.and_eq_true, decide_eq_true_eq, List.all_eq_true] at h
  have := h.2 l hl
  omega
theorem fitsB_out {ls : List ByteArray} (h : fitsB ls = true) : ls.length ≤ 2147483647 ∧ ∀ l ∈ ls, l.size ≤ 2147483647 := by
  simpa only [fitsB, Bool.and_eq_true, decide_eq_true_eq, List.all_eq_true] using h

set_option maxHeartbeats 4000000 in
theorem zzFits2_any (v : Value) (ls : List ByteArray) (w : World) (h : StrsAt w v ls) :
    Calls Tryz.prog 27 #[v] w fun e w' => e = .returned (.bool (fitsB ls)) ∧ w = w' := by
  by_cases hl : ls = []
  · subst hl
    obtain ⟨a, cap, rfl⟩ := h.form
    go_enter Tryz.func27, Tryz.ntmps27
    go_wp2_with fail
    go_loopg [10] 0 (fun k i wr => i = .int .i64 0 ∧ w = wr)
    case atStart => exact ⟨rfl, rfl⟩
    case round =>
      obtain ⟨rfl, rfl⟩ := hrel
      go_wp2_with fail
      go_ret
      exact ⟨rfl, rfl⟩
  · obtain ⟨a, cap, rfl, hc⟩ := h.some hl
    have HC := Lib.hid hc
    clear hc h
    by_cases hbig : 2147483647 < ls.length
    · have w0 : (2147483647 : Int) < ls.length := by omega
      go_enter Tryz.func27, Tryz.ntmps27
      go_wp2_with fail
      go_ret
      exact ⟨by rw [fitsB_len hbig]; rfl, rfl⟩
    · have w0 : ¬ (2147483647 : Int) < ls.length := by omega
      go_enter Tryz.func27, Tryz.ntmps27
      go_wp2_with fail
      go_loopg [10] ls.length (fun k i wr => ∃ j : Nat, k = ls.length - j ∧ j ≤ ls.length ∧ i = .int .i64 j ∧ w = wr ∧ ∀ l ∈ ls.take j, l.size ≤ 2147483647)
      case atStart => exact ⟨0, rfl, Nat.zero_le _, rfl, rfl, fun l h => by simp at h⟩
      case round =>
        obtain ⟨j, rfl, hj, rfl, rfl, hall⟩ := hrel
        by_cases hlt : j < ls.length
        · have w1 : (j : Int) < ls.length := by omega
          have w2 : (0 : Int) ≤ j := by omega
          have w3 : IntKind.i64.wrap ((j : Int) + 1) = (j : Int) + 1 := IntWalk.i64_in _ (by omega)
          obtain ⟨l, hlj⟩ : ∃ l, ls[j]? = some l := ⟨_, List.getElem?_eq_getElem hlt⟩
          have c1 := HC.out j l hlj
          have HJ := Lib.hid hlj
          clear hlj
          by_cases hb : 2147483647 < l.size
          · have v1 : (2147483647 : Int) < l.size := by omega
            go_wp2_with fail
            go_ret
            exact ⟨by rw [fitsB_big (List.mem_of_getElem? HJ.out) hb]; rfl, rfl⟩
          · have v1 : ¬ (2147483647 : Int) < l.size := by omega
            go_wp2_with fail
            go_roundg (ls.length - (j + 1))
            case measure => omega
            case rel =>
              refine ⟨j + 1, rfl, hlt, by rw [Int.natCast_succ], rfl, fun x hx => ?_⟩
              rw [take_succ_get HJ.out] at hx
              rcases List.mem_append.1 hx with hx | hx
              · exact hall x hx
              · have : x = l := by simpa using hx
                subst this
                omega
        · have w1 : ¬ (j : Int) < ls.length := by omega
          have hjl : j = ls.length := by omega
          go_wp2_with fail
          go_ret
          exact ⟨by rw [fitsB_of (by omega) (fun x hx => hall x (by rw [hjl, List.take_length]; exact hx))]; rfl, rfl⟩

theorem joinT_nil : joinT [] = ByteArray.empty := by simp [joinT, Lib.join]; rfl
theorem joinT_snocL : ∀ (x : ByteArray) (xs : List ByteArray) (l : ByteArray), (joinT ((x :: xs) ++ [l])).data.toList = (joinT (x :: xs)).data.toList ++ 10 :: l.data.toList
  | x, [], l => by
    rw [List.cons_append, List.nil_append, joinT_cons2, joinT_one, joinT_one]
  | x, y :: r, l => by
    rw [List.cons_append, List.cons_append, joinT_cons2, ← List.cons_append, joinT_snocL y r l, joinT_cons2]
    simp
theorem joinT_snoc {xs : List ByteArray} (h : xs ≠ []) (l : ByteArray) : joinT xs ++ (⟨#[10]⟩ : ByteArray) ++ l = joinT (xs ++ [l]) := by
  cases xs with
  | nil => exact absurd rfl h
  | cons x r =>
    have := joinT_snocL x r l
    apply ByteArray.ext
    apply Array.toList_inj.1
    rw [this]
    simp
theorem joinT_take_le : ∀ (ls : List ByteArray) (j : Nat), (joinT (ls.take j)).size ≤ (joinT ls).size
  | [], j => by rw [List.take_nil]; exact Nat.le_refl _
  | x :: r, 0 => by
    rw [List.take_zero, joinT_nil]
    exact Nat.zero_le _
  | [x], j + 1 => by rw [List.take_succ_cons, List.take_nil]; exact Nat.le_refl _
  | x :: y :: r, 1 => by
    rw [List.take_succ_cons, List.take_zero, joinT_one, joinT_size2]; omega
  | x :: y :: r, j + 2 => by
    have := joinT_take_le (y :: r) (j + 1)
    rw [List.take_succ_cons] at this
    rw [List.take_succ_cons, List.take_succ_cons, joinT_size2, joinT_size2]; omega

set_option maxHeartbeats 4000000 in
theorem joined_any (v : Value) (ls : List ByteArray) (w : World) (h : StrsAt w v ls) (hn : ls.length ≤ 1000) (hs : (joinT ls).size ≤ 1000000) :
    Calls Tryz.prog 32 #[v, .string ⟨#[10]⟩] w fun e w' => e = .returned (.string (joinT ls)) ∧ w = w' := by
  by_cases hl : ls = []
  · subst hl
    obtain ⟨a, cap, rfl⟩ := h.form
    go_enter Tryz.func32, Tryz.ntmps32
    go_wp2_with fail
    go_loopg [5, 10] 0 (fun k v i wr => v = .string ByteArray.empty ∧ i = .int .i64 0 ∧ w = wr)
    case atStart => exact ⟨rfl, rfl, rfl⟩
    case round =>
      obtain ⟨rfl, rfl, rfl⟩ := hrel
      go_wp2_with fail
      go_ret
      exact ⟨by rw [joinT_nil]; rfl, rfl⟩
  · obtain ⟨a, cap, rfl, hc⟩ := h.some hl
    have HC := Lib.hid hc
    clear hc h
    go_enter Tryz.func32, Tryz.ntmps32
    go_wp2_with fail
    go_loopg [5, 10] ls.length (fun k v i wr => ∃ j : Nat, k = ls.length - j ∧ j ≤ ls.length ∧ v = .string (joinT (ls.take j)) ∧ i = .int .i64 j ∧ w = wr)
    case atStart => exact ⟨0, rfl, Nat.zero_le _, by rw [List.take_zero, joinT_nil]; rfl, rfl, rfl⟩
    case round =>
      obtain ⟨j, rfl, hj, rfl, rfl, rfl⟩ := hrel
      by_cases hlt : j < ls.length
      · have w1 : (j : Int) < ls.length := by omega
        have w2 : (0 : Int) ≤ j := by omega
        have w3 : IntKind.i64.wrap ((j : Int) + 1) = (j : Int) + 1 := IntWalk.i64_in _ (by omega)
        obtain ⟨l, hlj⟩ : ∃ l, ls[j]? = some l := ⟨_, List.getElem?_eq_getElem hlt⟩
        have c1 := HC.out j l hlj
        have HJ := Lib.hid hlj
        have b1 : (joinT (ls.take j)).size ≤ 1000000 := Nat.le_trans (joinT_take_le ls j) hs
        have b2 : l.size ≤ 1000000 := Nat.le_trans (joinT_le ls l (List.mem_of_getElem? hlj)) hs
        have b3 : (joinT (ls.take j) ++ (⟨#[10]⟩ : ByteArray)).size ≤ 1000001 := by
          rw [ByteArray.size_append]
          show _ + 1 ≤ _
          omega
        clear hlj
        by_cases hj0 : 0 < j
        · have v1 : (0 : Int) < j := by omega
          have hne : ls.take j ≠ [] := by
            intro h
            have := congrArg List.length h
            rw [List.length_take, List.length_nil] at this
            omega
          have HS := Lib.hid (joinT_snoc hne l)
          clear hne
          go_wp2_with fail
          go_roundg (ls.length - (j + 1))
          case measure => omega
          case rel => exact ⟨j + 1, rfl, hlt, by rw [take_succ_get HJ.out, ← HS.out], by rw [Int.natCast_succ], rfl⟩
        · have v1 : ¬ (0 : Int) < j := by omega
          have hz : j = 0 := by omega
          have HZ := Lib.hid hz
          clear hz
          go_wp2_with fail
          go_roundg (ls.length - (j + 1))
          case measure => omega
          case rel =>
            have hz := HZ.out
            subst hz
            refine ⟨1, rfl, hlt, ?_, rfl, rfl⟩
            rw [take_succ_get HJ.out, List.take_zero, joinT_nil, List.nil_append, joinT_one]
            simp
      · have w1 : ¬ (j : Int) < ls.length := by omega
        have hjl : j = ls.length := by omega
        go_wp2_with fail
        go_ret
        exact ⟨rfl, rfl⟩
end Go.Proofs.YtdnlfdppjfjncaaGreatDoor
