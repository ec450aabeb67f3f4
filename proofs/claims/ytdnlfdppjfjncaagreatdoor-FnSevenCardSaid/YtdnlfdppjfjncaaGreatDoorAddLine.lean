/- addLine where the document alone is open and the line begins a paragraph. -/
import Derived.Test.YtdnlfdppjfjncaaGreatDoorPara
import Derived.Test.YtdnlfdppjfjncaaGreatDoorState4
namespace Go.Proofs.YtdnlfdppjfjncaaGreatDoor
open Go Go.RowKit Go.Proofs

/-- The line begins no item of a list. -/
def ItemNo (text : ByteArray) (i : Nat) : Prop := NoItem (at0 text (p3 text i)) ∨ (isDig (at0 text (p3 text i)) ∧ NumNo text (p3 text i))

theorem startListItem_none (b bp : Nat) (text : ByteArray) (i : Nat) (nl : Int) (w : World) (hi : i ≤ text.size) (hT : Txt text) (hL : LineAt w b i text nl) (hc : ItemNo text i) :
    Calls Tryz.prog 149 #[.pointer (some ⟨bp, 0, none⟩), .pointer (some ⟨b, 0, none⟩)] w fun e w' => e = .returned (.bool false) ∧ Same w w' := by
  rcases hc with h | ⟨h1, h2⟩
  · exact startListItem_no b bp text i nl w hi hT hL h
  · exact startListItem_num b bp text i nl w hi hT hL h1 h2

theorem as_list_no (T X : Nat) (v : Value) (w : World) (h : T ≠ 242) :
    (Instr.typeAssert (.iface T v) X 242 true).run Tryz.prog w = .ok (.tuple #[.pointer none, .bool false]) w :=
  as_ptr_no T _ 247 (by kernel_rfl) (fun _ => by kernel_rfl) X v w h

set_option maxRecDepth 100000 in
set_option maxHeartbeats 2000000 in
theorem newListItem_no (bp g n cap : Nat) (_a : Option Addr) (p : PSt) (T d : Nat) (v : Value) (text : ByteArray) (i : Nat) (nl : Int) (w : World) (hp : PsAt w bp p) (hst : p.stack = .slice (some ⟨g, 0, none⟩) n cap) (hd : p.depth = d) (hn : d < n) (hn2 : d ≤ 1000000)
    (hb : w.cell? ⟨g, d * 4, none⟩ = some (.iface T v)) (hT4 : T ≠ 242) (hi : i ≤ text.size) (hT : Txt text) (hc : ItemNo text i) :
    Calls Tryz.prog 99 #[.pointer (some ⟨bp, 0, none⟩), LV i text nl] w fun e w' => e = .returned (.tuple #[LV i text nl, .bool false]) ∧ Same w w' := by
  have hA := fun w => as_list_no T 118 v w hT4
  go_enter Tryz.func99, Tryz.ntmps99
  go_wp2_with fail
  generalize hW : ((w.alloc _).alloc _ : World) = W
  have hm0 : Same w W := by subst hW; exact ((Mods.refl _ w).alloc _).alloc _
  have hbk : LineAt W w.heap.size i text nl := by subst hW; exact (Blk.newAt _ _ rfl).alloc _
  have hr : LineAt W (w.heap.size + 1) 0 ⟨#[]⟩ 0 := by subst hW; exact Blk.newAt _ _ (by simp)
  clear hW
  have hb1 : W.cell? ⟨g, d * 4, none⟩ = some (.iface T v) := (World.cell?_of_block (hm0.block g (World.block_lt_of_cell? _ _ hb) (fun x => x))).trans hb
  refine (curB_some bp g n cap p W (hp.same hm0) hst d hd hn hn2 _ hb1).mono ?_
  rintro e w1 ⟨rfl, n1, rfl⟩
  have hm1 : Same W (W.drewN n1) := (Mods.refl _ W).drewN _
  generalize W.drewN n1 = W1 at *
  have hbk1 := Same.blk hm1 hbk
  have hr1 := Same.blk hm1 hr
  have hk := hm0.trans hm1
  clear hbk hr hm0 hm1 hb1 hd hst hp hb
  go_wp2_with fail
  refine (startListItem_none _ bp text i nl W1 hi hT hbk1 hc).mono ?_
  rintro e w2 ⟨rfl, hm2⟩
  have hbk2 := Same.blk hm2 hbk1
  have hr2 := Same.blk hm2 hr1
  have hk2 := hk.trans hm2
  obtain ⟨g0, g1, g2, g3, g4, gf0, gf1, gf2, gf3, gf4, gbl⟩ := LineAt.facts hbk2
  obtain ⟨r0, r1, r2, r3, r4, rf0, rf1, rf2, rf3, rf4, rbl⟩ := LineAt.facts hr2
  clear hbk1 hr1 hbk2 hc hk hm2
  go_wp2
  exact bodyPost_ret (v := .tuple #[LV i text nl, .bool false]) (by simp [results, Tryz.results99, go_sem, r0, r1, r2, r3, r4]) rfl ⟨rfl, by
    exact hk2.then ((put5 hr2 i text nl).1) (by intro b hb; omega)⟩
theorem news_any (w : World) : Calls Tryz.prog 71 #[] w fun e w' => ∃ b, e = .returned (.slice (some ⟨b, 0, none⟩) 8 8) ∧ Same w w' ∧
    Blk w' b #[.func (.func 95) #[] #[], .func (.func 96) #[] #[], .func (.func 97) #[] #[], .func (.func 98) #[] #[],
      .func (.func 99) #[] #[], .func (.func 100) #[] #[], .func (.func 101) #[] #[], .func (.func 102) #[] #[]] 124 := by
  go_enter Tryz.func71, Tryz.ntmps71
  go_wp2
  go_ret
  exact ⟨w.heap.size, rfl, (Mods.refl _ w).alloc _, Blk.newAt _ _ rfl⟩

/-- None of the eight functions begins a block with this line. -/
def TriesNo (w : World) (bp i : Nat) (text : ByteArray) (nl : Int) : Prop :=
  ∀ f ∈ [95, 96, 97, 98, 99, 100, 101, 102], ∀ W, Same w W →
    Calls Tryz.prog f #[.pointer (some ⟨bp, 0, none⟩), LV i text nl] W fun e w' => e = .returned (.tuple #[LV i text nl, .bool false]) ∧ Same W w'

/-- A line that begins with none of the signs of blocks. -/
structure Plain (text : ByteArray) (i : Nat) : Prop where
  c62 : ((at0 text (p3 text i)).toNat : Int) ≠ 62
  c35 : ((at0 text (p3 text i)).toNat : Int) ≠ 35
  c45 : ((at0 text (p3 text i)).toNat : Int) ≠ 45
  c95 : ((at0 text (p3 text i)).toNat : Int) ≠ 95
  c42 : ((at0 text (p3 text i)).toNat : Int) ≠ 42
  c60 : ((at0 text (p3 text i)).toNat : Int) ≠ 60
  c96 : ((at0 text (p3 text i)).toNat : Int) ≠ 96
  c126 : ((at0 text (p3 text i)).toNat : Int) ≠ 126
  c32 : at0 text (p3 text i) ≠ 32
  item : ItemNo text i

theorem triesNo_first (bp g n cap : Nat) (p : PSt) (T : Nat) (v : Value) (text : ByteArray) (i : Nat) (nl : Int) (w : World) (h : NoPara w bp g n cap p T v) (hd : p.depth = n)
    (hT4 : T ≠ 242) (hi : i ≤ text.size) (hT : Txt text) (hP : Plain text i) : TriesNo w bp i text nl := by
  intro f hf W hW
  have h1 := h.same hW
  simp only [List.mem_cons, List.not_mem_nil, or_false] at hf
  rcases hf with rfl | rfl | rfl | rfl | rfl | rfl | rfl | rfl
  · exact newQuote_no _ text i nl W hi hT hP.c62
  · exact newATX_no _ text i nl W hi hT hP.c35
  · exact newSetext_first bp g n cap p T v text i nl W h1 hd
  · exact newHR_no _ text i nl W hi hT hP.c45 hP.c95 hP.c42
  · exact newListItem_no bp g (n + 1) cap none p T n v text i nl W h1.at_ h1.stack hd (by omega) h1.small h1.top hT4 hi hT hP.item
  · exact newHTML_no _ text i nl W hi hT hP.c60
  · exact newFence_no _ text i nl W hi hT hP.c96 hP.c126
  · exact newPre_first bp g n cap p T v text i nl W hi hT h1 hP.c32

def blankAt (text : ByteArray) (i : Nat) : Bool := (trimL (text.extract i text.size)).toList.isEmpty

set_option maxRecDepth 100000 in
set_option maxHeartbeats 4000000 in
theorem addLine_first (bp g cap : Nat) (p : PSt) (T : Nat) (v : Value) (l : List Value) (text : ByteArray) (nl : Int) (w : World) (h : NoPara w bp g 0 cap p T v)
    (hs : text.size ≤ 1000000) (hbl : blankAt text 0 = false) (hO : Opt w p 5 false) (hown : w.ownsRow 0 121 4 p.stack 1 l) (hp51 : p.parser ≠ bp)
    (hN : ∀ W, NoPara W bp g 0 cap { p with depth := 0 } T v → TriesNo W bp 0 text nl) :
    Calls Tryz.prog 64 #[.pointer (some ⟨bp, 0, none⟩), LV 0 text nl] w fun e w' => e = .returned (.tuple #[]) ∧ ParaNew w w' bp { p with depth := 0 } 0 l (trimL (text.extract 0 text.size)) := by
  have k5 := h.at_.depth
  have f5 := h.at_.fr 5
  have hbpl := h.at_.lt
  go_enter Tryz.func64, Tryz.ntmps64
  go_wp2
  go_step3
  go_wp2
  generalize hW : (World.alloc _ _ : World) = W
  have hp0 : PsAt W bp { p with depth := 0 } := by subst hW; exact PsAt.alloc (h.at_.set 5 _ { p with depth := 0 } rfl (by decide)) _
  have hm0 : Mods (fun k => k = bp) w W := by subst hW; exact ((Mods.refl (fun k => k = bp) w).setCell (p := ⟨bp, 5, none⟩) (fun _ => rfl) _).alloc _
  have hbk : LineAt W w.heap.size 0 text nl := by subst hW; exact Blk.newAt _ _ (by simp)
  clear hW
  obtain ⟨tail, htl⟩ := id h.at_
  obtain ⟨_, _, he, ⟨cur, hcur⟩, _, _⟩ := ownsRow_form (h.stack ▸ hown) (by omega)
  cases he
  have hgbp : g ≠ bp := hcur.ne_of_type htl (by decide)
  have h0 : NoPara W bp g 0 cap { p with depth := 0 } T v := ⟨hp0, h.stack, h.small, (World.cell?_of_block (hm0.block g (World.block_lt_of_cell? _ _ h.top) hgbp)).trans h.top, h.other⟩
  have hown0 : W.ownsRow 0 121 4 p.stack 1 l := ownsRow_keep hown hm0 (by rw [h.stack]; intro k hk; cases hk; exact hgbp)
  have hO0 : Opt W p 5 false := hO.keep hm0 hp51
  have hTN := hN W h0
  have k4 : W.cell? ⟨bp, 4, none⟩ = some (.slice (some ⟨g, 0, none⟩) 1 cap) := by have := hp0.stack; rw [h.stack] at this; exact this
  have k5' := hp0.depth
  clear k5 f5 hbpl hcur htl
  go_loopg [] 0 (fun g wr => W = wr)
  case atStart => rfl
  case round =>
    subst hrel
    go_wp2_with fail
    go_quiet (fail)
    generalize hX : (W.drewN _ : World) = W1
    have hm1 : Same W W1 := by subst hX; exact (Mods.refl _ W).drewN _
    clear hX k4 k5'
    have hbk1 := Same.blk hm1 hbk
    go_wp2_with fail
    refine (isBlank_any _ _ _ _ _ hs (by omega) hbk1).mono ?_
    rintro e w2 ⟨rfl, n2, rfl⟩
    rw [show (trimL (text.extract 0 text.size)).toList.isEmpty = false from hbl]
    have hm2 : Same W (W1.drewN n2) := hm1.drewN _
    generalize W1.drewN n2 = W2 at *
    have hbk2 := Same.blk hm2 hbk
    clear hm1 hbk1 hbl
    go_wp2_with fail
    go_step3
    go_wp2_with fail
    refine (news_any _).mono ?_
    rintro e w3 ⟨nb, rfl, hm3, hnb⟩
    have hm4 := hm2.trans hm3
    have hbk3 := Same.blk hm3 hbk2
    clear hm2 hbk2
    go_wp2
    go_loopg [88] 8 (fun gg j wr => ∃ k : Nat, gg = 8 - k ∧ j = .int .i64 k ∧ k ≤ 8 ∧ Same w3 wr)
    case atStart => exact ⟨0, rfl, rfl, by omega, Mods.refl _ _⟩
    case round =>
      obtain ⟨k, hg, rfl, hk8, hr5⟩ := hrel
      have hm5 := hm4.trans hr5
      have hbk5 := Same.blk hr5 hbk3
      have hnb5 := Same.blk hr5 hnb
      obtain ⟨g0, g1, g2, g3, g4, gf0, gf1, gf2, gf3, gf4, gbl⟩ := LineAt.facts hbk5
      have hcases : k = 0 ∨ k = 1 ∨ k = 2 ∨ k = 3 ∨ k = 4 ∨ k = 5 ∨ k = 6 ∨ k = 7 ∨ k = 8 := by omega
      rcases hcases with rfl | rfl | rfl | rfl | rfl | rfl | rfl | rfl | rfl
      · have n0 : wr.cell? ⟨nb, 0, none⟩ = some (.func (.func 95) #[] #[]) := hnb5.cell 0
        go_wp2_with fail
        refine (hTN 95 (by simp) wr hm5).mono ?_
        rintro e w6 ⟨rfl, hm6⟩
        clear n0 g0 g1 g2 g3 g4 gf0 gf1 gf2 gf3 gf4 gbl
        go_wp2
        go_roundg 7
        case measure => omega
        case rel => exact ⟨1, rfl, rfl, by omega, (hr5.trans hm6).alloc _⟩
      · have n0 : wr.cell? ⟨nb, 1, none⟩ = some (.func (.func 96) #[] #[]) := hnb5.cell 1
        go_wp2_with fail
        refine (hTN 96 (by simp) wr hm5).mono ?_
        rintro e w6 ⟨rfl, hm6⟩
        clear n0 g0 g1 g2 g3 g4 gf0 gf1 gf2 gf3 gf4 gbl
        go_wp2
        go_roundg 6
        case measure => omega
        case rel => exact ⟨2, rfl, rfl, by omega, (hr5.trans hm6).alloc _⟩
      · have n0 : wr.cell? ⟨nb, 2, none⟩ = some (.func (.func 97) #[] #[]) := hnb5.cell 2
        go_wp2_with fail
        refine (hTN 97 (by simp) wr hm5).mono ?_
        rintro e w6 ⟨rfl, hm6⟩
        clear n0 g0 g1 g2 g3 g4 gf0 gf1 gf2 gf3 gf4 gbl
        go_wp2
        go_roundg 5
        case measure => omega
        case rel => exact ⟨3, rfl, rfl, by omega, (hr5.trans hm6).alloc _⟩
      · have n0 : wr.cell? ⟨nb, 3, none⟩ = some (.func (.func 98) #[] #[]) := hnb5.cell 3
        go_wp2_with fail
        refine (hTN 98 (by simp) wr hm5).mono ?_
        rintro e w6 ⟨rfl, hm6⟩
        clear n0 g0 g1 g2 g3 g4 gf0 gf1 gf2 gf3 gf4 gbl
        go_wp2
        go_roundg 4
        case measure => omega
        case rel => exact ⟨4, rfl, rfl, by omega, (hr5.trans hm6).alloc _⟩
      · have n0 : wr.cell? ⟨nb, 4, none⟩ = some (.func (.func 99) #[] #[]) := hnb5.cell 4
        go_wp2_with fail
        refine (hTN 99 (by simp) wr hm5).mono ?_
        rintro e w6 ⟨rfl, hm6⟩
        clear n0 g0 g1 g2 g3 g4 gf0 gf1 gf2 gf3 gf4 gbl
        go_wp2
        go_roundg 3
        case measure => omega
        case rel => exact ⟨5, rfl, rfl, by omega, (hr5.trans hm6).alloc _⟩
      · have n0 : wr.cell? ⟨nb, 5, none⟩ = some (.func (.func 100) #[] #[]) := hnb5.cell 5
        go_wp2_with fail
        refine (hTN 100 (by simp) wr hm5).mono ?_
        rintro e w6 ⟨rfl, hm6⟩
        clear n0 g0 g1 g2 g3 g4 gf0 gf1 gf2 gf3 gf4 gbl
        go_wp2
        go_roundg 2
        case measure => omega
        case rel => exact ⟨6, rfl, rfl, by omega, (hr5.trans hm6).alloc _⟩
      · have n0 : wr.cell? ⟨nb, 6, none⟩ = some (.func (.func 101) #[] #[]) := hnb5.cell 6
        go_wp2_with fail
        refine (hTN 101 (by simp) wr hm5).mono ?_
        rintro e w6 ⟨rfl, hm6⟩
        clear n0 g0 g1 g2 g3 g4 gf0 gf1 gf2 gf3 gf4 gbl
        go_wp2
        go_roundg 1
        case measure => omega
        case rel => exact ⟨7, rfl, rfl, by omega, (hr5.trans hm6).alloc _⟩
      · have n0 : wr.cell? ⟨nb, 7, none⟩ = some (.func (.func 102) #[] #[]) := hnb5.cell 7
        go_wp2_with fail
        refine (hTN 102 (by simp) wr hm5).mono ?_
        rintro e w6 ⟨rfl, hm6⟩
        clear n0 g0 g1 g2 g3 g4 gf0 gf1 gf2 gf3 gf4 gbl
        go_wp2
        go_roundg 0
        case measure => omega
        case rel => exact ⟨8, rfl, rfl, by omega, (hr5.trans hm6).alloc _⟩
      · have h5 := h0.same hm5
        have hown5 := ownsRow_keep hown0 hm5 (fun _ _ x => x)
        have hO5 := hO0.keep hm5 (fun x => x)
        go_wp2_with fail
        refine (newPara_first bp g 0 cap { p with depth := 0 } T v l text 0 nl wr h5 rfl (by omega) (by omega) hs hO5 hown5).mono ?_
        rintro e w6 ⟨rfl, hpn⟩
        go_wp2
        try rw [Exit.noGoto_normal]
        go_end0
        refine ⟨rfl, ?_, ?_⟩
        · exact ((hm0.mono (fun _ _ h => Or.inl h)).then (hm5.trans (Mods.refl _ _)) (fun _ _ h => absurd h (fun x => x))).then hpn.mods (fun _ _ h => h)
        · obtain ⟨g6, cap6, bb, tv, x1, x2, x3, x4, x5, x6⟩ := hpn.ex
          exact ⟨g6, cap6, bb, tv, x1, x2, x3, x4, by have := hm0.size; have := hm5.size; omega, fun hlt => x6 (by have := hm0.size; have := hm5.size; omega)⟩
end Go.Proofs.YtdnlfdppjfjncaaGreatDoor
