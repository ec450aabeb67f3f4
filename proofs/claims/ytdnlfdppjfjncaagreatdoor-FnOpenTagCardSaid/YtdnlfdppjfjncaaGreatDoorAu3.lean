/- Some texts of one proof, put into one file: AddLine, Head, Cont, Build, Build2, Close. -/
import Derived.Deep.RegionWith
import Derived.Test.YtdnlfdppjfjncaaGreatDoorAu2
/- addLine where the document alone is open and the line begins a paragraph. -/
namespace Go.Proofs.YtdnlfdppjfjncaaGreatDoor
open Go Go.RowKit Go.Proofs

/-- The line begins no item of a list. -/
def ItemNo (text : ByteArray) (i : Nat) : Prop := NoItem (at0 text (p3 text i)) ∨ (isDig (at0 text (p3 text i)) ∧ NumNo text (p3 text i))

theorem startListItem_none (b bp : Nat) (text : ByteArray) (i : Nat) (nl : Int) (w : World) (hi : i ≤ text.size) (hT : Txt text) (hL : LineAt w b i text nl) (hc : ItemNo text i) :
    Calls Tryz.prog 149 #[.pointer (some ⟨bp, 0, none⟩), .pointer (some ⟨b, 0, none⟩)] w fun e w' => e = .returned (.bool false) ∧ Same w w' := by
  rcases hc with h | ⟨h1, h2⟩
  · exact startListItem_no b bp text i nl w hi hT hL h
  · exact startListItem_num b bp text i nl w hi hT hL h1 h2

theorem as_list_no (T X : Nat) (v : Value) (w : World) (h : T ≠ 242) :
    (Instr.typeAssert (.iface T v) X 242 true).run Tryz.prog w = .ok (.tuple #[.pointer none, .bool false]) w :=
  as_ptr_no T _ 247 (by kernel_rfl) (fun _ => by kernel_rfl) X v w h

set_option maxRecDepth 100000 in
set_option maxHeartbeats 2000000 in
theorem newListItem_no (bp g n cap : Nat) (_a : Option Addr) (p : PSt) (T d : Nat) (v : Value) (text : ByteArray) (i : Nat) (nl : Int) (w : World) (hp : PsAt w bp p) (hst : p.stack = .slice (some ⟨g, 0, none⟩) n cap) (hd : p.depth = d) (hn : d < n) (hn2 : d ≤ 1000000)
    (hb : w.cell? ⟨g, d * 4, none⟩ = some (.iface T v)) (hT4 : T ≠ 242) (hi : i ≤ text.size) (hT : Txt text) (hc : ItemNo text i) :
    Calls Tryz.prog 99 #[.pointer (some ⟨bp, 0, none⟩), LV i text nl] w fun e w' => e = .returned (.tuple #[LV i text nl, .bool false]) ∧ Same w w' := by
  have hA := fun w => as_list_no T 118 v w hT4
  go_enter Tryz.func99, Tryz.ntmps99
  go_wp2_with fail
  generalize hW : ((w.alloc _).alloc _ : World) = W
  have hm0 : Same w W := by subst hW; exact ((Mods.refl _ w).alloc _).alloc _
  have hbk : LineAt W w.heap.size i text nl := by subst hW; exact (Blk.newAt _ _ rfl).alloc _
  have hr : LineAt W (w.heap.size + 1) 0 ⟨#[]⟩ 0 := by subst hW; exact Blk.newAt _ _ (by simp)
  clear hW
  have hb1 : W.cell? ⟨g, d * 4, none⟩ = some (.iface T v) := (World.cell?_of_block (hm0.block g (World.block_lt_of_cell? _ _ hb) (fun x => x))).trans hb
  refine (curB_some bp g n cap p W (hp.same hm0) hst d hd hn hn2 _ hb1).mono ?_
  rintro e w1 ⟨rfl, n1, rfl⟩
  have hm1 : Same W (W.drewN n1) := (Mods.refl _ W).drewN _
  generalize W.drewN n1 = W1 at *
  have hbk1 := Same.blk hm1 hbk
  have hr1 := Same.blk hm1 hr
  have hk := hm0.trans hm1
  clear hbk hr hm0 hm1 hb1 hd hst hp hb
  go_wp2_with fail
  refine (startListItem_none _ bp text i nl W1 hi hT hbk1 hc).mono ?_
  rintro e w2 ⟨rfl, hm2⟩
  have hbk2 := Same.blk hm2 hbk1
  have hr2 := Same.blk hm2 hr1
  have hk2 := hk.trans hm2
  obtain ⟨g0, g1, g2, g3, g4, gf0, gf1, gf2, gf3, gf4, gbl⟩ := LineAt.facts hbk2
  obtain ⟨r0, r1, r2, r3, r4, rf0, rf1, rf2, rf3, rf4, rbl⟩ := LineAt.facts hr2
  clear hbk1 hr1 hbk2 hc hk hm2
  go_wp2
  exact bodyPost_ret (v := .tuple #[LV i text nl, .bool false]) (by simp [results, Tryz.results99, go_sem, r0, r1, r2, r3, r4]) rfl ⟨rfl, by
    exact hk2.then ((put5 hr2 i text nl).1) (by intro b hb; omega)⟩
theorem news_any (w : World) : Calls Tryz.prog 71 #[] w fun e w' => ∃ b, e = .returned (.slice (some ⟨b, 0, none⟩) 8 8) ∧ Same w w' ∧
    Blk w' b #[.func (.func 95) #[] #[], .func (.func 96) #[] #[], .func (.func 97) #[] #[], .func (.func 98) #[] #[],
      .func (.func 99) #[] #[], .func (.func 100) #[] #[], .func (.func 101) #[] #[], .func (.func 102) #[] #[]] 124 := by
  go_enter Tryz.func71, Tryz.ntmps71
  go_wp2
  go_ret
  exact ⟨w.heap.size, rfl, (Mods.refl _ w).alloc _, Blk.newAt _ _ rfl⟩

/-- None of the eight functions begins a block with this line. -/
def TriesNo (w : World) (bp i : Nat) (text : ByteArray) (nl : Int) : Prop :=
  ∀ f ∈ [95, 96, 97, 98, 99, 100, 101, 102], ∀ W, Same w W →
    Calls Tryz.prog f #[.pointer (some ⟨bp, 0, none⟩), LV i text nl] W fun e w' => e = .returned (.tuple #[LV i text nl, .bool false]) ∧ Same W w'

/-- A line that begins with none of the signs of blocks. -/
structure Plain (text : ByteArray) (i : Nat) : Prop where
  c62 : ((at0 text (p3 text i)).toNat : Int) ≠ 62
  c35 : ((at0 text (p3 text i)).toNat : Int) ≠ 35
  c45 : ((at0 text (p3 text i)).toNat : Int) ≠ 45
  c95 : ((at0 text (p3 text i)).toNat : Int) ≠ 95
  c42 : ((at0 text (p3 text i)).toNat : Int) ≠ 42
  c60 : ((at0 text (p3 text i)).toNat : Int) ≠ 60
  c96 : ((at0 text (p3 text i)).toNat : Int) ≠ 96
  c126 : ((at0 text (p3 text i)).toNat : Int) ≠ 126
  c32 : at0 text (p3 text i) ≠ 32
  item : ItemNo text i

theorem triesNo_first (bp g n cap : Nat) (p : PSt) (T : Nat) (v : Value) (text : ByteArray) (i : Nat) (nl : Int) (w : World) (h : NoPara w bp g n cap p T v) (hd : p.depth = n)
    (hT4 : T ≠ 242) (hi : i ≤ text.size) (hT : Txt text) (hP : Plain text i) : TriesNo w bp i text nl := by
  intro f hf W hW
  have h1 := h.same hW
  simp only [List.mem_cons, List.not_mem_nil, or_false] at hf
  rcases hf with rfl | rfl | rfl | rfl | rfl | rfl | rfl | rfl
  · exact newQuote_no _ text i nl W hi hT hP.c62
  · exact newATX_no _ text i nl W hi hT hP.c35
  · exact newSetext_first bp g n cap p T v text i nl W h1 hd
  · exact newHR_no _ text i nl W hi hT hP.c45 hP.c95 hP.c42
  · exact newListItem_no bp g (n + 1) cap none p T n v text i nl W h1.at_ h1.stack hd (by omega) h1.small h1.top hT4 hi hT hP.item
  · exact newHTML_no _ text i nl W hi hT hP.c60
  · exact newFence_no _ text i nl W hi hT hP.c96 hP.c126
  · exact newPre_first bp g n cap p T v text i nl W hi hT h1 hP.c32

def blankAt (text : ByteArray) (i : Nat) : Bool := (trimL (text.extract i text.size)).toList.isEmpty

set_option maxRecDepth 100000 in
set_option maxHeartbeats 4000000 in
theorem addLine_first (bp g cap : Nat) (p : PSt) (T : Nat) (v : Value) (l : List Value) (text : ByteArray) (nl : Int) (w : World) (h : NoPara w bp g 0 cap p T v)
    (hs : text.size ≤ 1000000) (hbl : blankAt text 0 = false) (hO : Opt w p 5 false) (hown : w.ownsRow 0 121 4 p.stack 1 l) (hp51 : p.parser ≠ bp)
    (hN : ∀ W, NoPara W bp g 0 cap { p with depth := 0 } T v → TriesNo W bp 0 text nl) :
    Calls Tryz.prog 64 #[.pointer (some ⟨bp, 0, none⟩), LV 0 text nl] w fun e w' => e = .returned (.tuple #[]) ∧ ParaNew w w' bp { p with depth := 0 } 0 l (trimL (text.extract 0 text.size)) := by
  have k5 := h.at_.depth
  have f5 := h.at_.fr 5
  have hbpl := h.at_.lt
  go_enter Tryz.func64, Tryz.ntmps64
  go_wp2
  go_step3
  go_wp2
  generalize hW : (World.alloc _ _ : World) = W
  have hp0 : PsAt W bp { p with depth := 0 } := by subst hW; exact PsAt.alloc (h.at_.set 5 _ { p with depth := 0 } rfl (by decide)) _
  have hm0 : Mods (fun k => k = bp) w W := by subst hW; exact ((Mods.refl (fun k => k = bp) w).setCell (p := ⟨bp, 5, none⟩) (fun _ => rfl) _).alloc _
  have hbk : LineAt W w.heap.size 0 text nl := by subst hW; exact Blk.newAt _ _ (by simp)
  clear hW
  obtain ⟨tail, htl⟩ := id h.at_
  obtain ⟨_, _, he, ⟨cur, hcur⟩, _, _⟩ := ownsRow_form (h.stack ▸ hown) (by omega)
  cases he
  have hgbp : g ≠ bp := hcur.ne_of_type htl (by decide)
  have h0 : NoPara W bp g 0 cap { p with depth := 0 } T v := ⟨hp0, h.stack, h.small, (World.cell?_of_block (hm0.block g (World.block_lt_of_cell? _ _ h.top) hgbp)).trans h.top, h.other⟩
  have hown0 : W.ownsRow 0 121 4 p.stack 1 l := ownsRow_keep hown hm0 (by rw [h.stack]; intro k hk; cases hk; exact hgbp)
  have hO0 : Opt W p 5 false := hO.keep hm0 hp51
  have hTN := hN W h0
  have k4 : W.cell? ⟨bp, 4, none⟩ = some (.slice (some ⟨g, 0, none⟩) 1 cap) := by have := hp0.stack; rw [h.stack] at this; exact this
  have k5' := hp0.depth
  clear k5 f5 hbpl hcur htl
  go_loopg [] 0 (fun g wr => W = wr)
  case atStart => rfl
  case round =>
    subst hrel
    go_wp2_with fail
    go_quiet (fail)
    generalize hX : (W.drewN _ : World) = W1
    have hm1 : Same W W1 := by subst hX; exact (Mods.refl _ W).drewN _
    clear hX k4 k5'
    have hbk1 := Same.blk hm1 hbk
    go_wp2_with fail
    refine (isBlank_any _ _ _ _ _ hs (by omega) hbk1).mono ?_
    rintro e w2 ⟨rfl, n2, rfl⟩
    rw [show (trimL (text.extract 0 text.size)).toList.isEmpty = false from hbl]
    have hm2 : Same W (W1.drewN n2) := hm1.drewN _
    generalize W1.drewN n2 = W2 at *
    have hbk2 := Same.blk hm2 hbk
    clear hm1 hbk1 hbl
    go_wp2_with fail
    go_step3
    go_wp2_with fail
    refine (news_any _).mono ?_
    rintro e w3 ⟨nb, rfl, hm3, hnb⟩
    have hm4 := hm2.trans hm3
    have hbk3 := Same.blk hm3 hbk2
    clear hm2 hbk2
    go_wp2
    go_loopg [88] 8 (fun gg j wr => ∃ k : Nat, gg = 8 - k ∧ j = .int .i64 k ∧ k ≤ 8 ∧ Same w3 wr)
    case atStart => exact ⟨0, rfl, rfl, by omega, Mods.refl _ _⟩
    case round =>
      obtain ⟨k, hg, rfl, hk8, hr5⟩ := hrel
      have hm5 := hm4.trans hr5
      have hbk5 := Same.blk hr5 hbk3
      have hnb5 := Same.blk hr5 hnb
      obtain ⟨g0, g1, g2, g3, g4, gf0, gf1, gf2, gf3, gf4, gbl⟩ := LineAt.facts hbk5
      have hcases : k = 0 ∨ k = 1 ∨ k = 2 ∨ k = 3 ∨ k = 4 ∨ k = 5 ∨ k = 6 ∨ k = 7 ∨ k = 8 := by omega
      rcases hcases with rfl | rfl | rfl | rfl | rfl | rfl | rfl | rfl | rfl
      · have n0 : wr.cell? ⟨nb, 0, none⟩ = some (.func (.func 95) #[] #[]) := hnb5.cell 0
        go_wp2_with fail
        refine (hTN 95 (by simp) wr hm5).mono ?_
        rintro e w6 ⟨rfl, hm6⟩
        clear n0 g0 g1 g2 g3 g4 gf0 gf1 gf2 gf3 gf4 gbl
        go_wp2
        go_roundg 7
        case measure => omega
        case rel => exact ⟨1, rfl, rfl, by omega, (hr5.trans hm6).alloc _⟩
      · have n0 : wr.cell? ⟨nb, 1, none⟩ = some (.func (.func 96) #[] #[]) := hnb5.cell 1
        go_wp2_with fail
        refine (hTN 96 (by simp) wr hm5).mono ?_
        rintro e w6 ⟨rfl, hm6⟩
        clear n0 g0 g1 g2 g3 g4 gf0 gf1 gf2 gf3 gf4 gbl
        go_wp2
        go_roundg 6
        case measure => omega
        case rel => exact ⟨2, rfl, rfl, by omega, (hr5.trans hm6).alloc _⟩
      · have n0 : wr.cell? ⟨nb, 2, none⟩ = some (.func (.func 97) #[] #[]) := hnb5.cell 2
        go_wp2_with fail
        refine (hTN 97 (by simp) wr hm5).mono ?_
        rintro e w6 ⟨rfl, hm6⟩
        clear n0 g0 g1 g2 g3 g4 gf0 gf1 gf2 gf3 gf4 gbl
        go_wp2
        go_roundg 5
        case measure => omega
        case rel => exact ⟨3, rfl, rfl, by omega, (hr5.trans hm6).alloc _⟩
      · have n0 : wr.cell? ⟨nb, 3, none⟩ = some (.func (.func 98) #[] #[]) := hnb5.cell 3
        go_wp2_with fail
        refine (hTN 98 (by simp) wr hm5).mono ?_
        rintro e w6 ⟨rfl, hm6⟩
        clear n0 g0 g1 g2 g3 g4 gf0 gf1 gf2 gf3 gf4 gbl
        go_wp2
        go_roundg 4
        case measure => omega
        case rel => exact ⟨4, rfl, rfl, by omega, (hr5.trans hm6).alloc _⟩
      · have n0 : wr.cell? ⟨nb, 4, none⟩ = some (.func (.func 99) #[] #[]) := hnb5.cell 4
        go_wp2_with fail
        refine (hTN 99 (by simp) wr hm5).mono ?_
        rintro e w6 ⟨rfl, hm6⟩
        clear n0 g0 g1 g2 g3 g4 gf0 gf1 gf2 gf3 gf4 gbl
        go_wp2
        go_roundg 3
        case measure => omega
        case rel => exact ⟨5, rfl, rfl, by omega, (hr5.trans hm6).alloc _⟩
      · have n0 : wr.cell? ⟨nb, 5, none⟩ = some (.func (.func 100) #[] #[]) := hnb5.cell 5
        go_wp2_with fail
        refine (hTN 100 (by simp) wr hm5).mono ?_
        rintro e w6 ⟨rfl, hm6⟩
        clear n0 g0 g1 g2 g3 g4 gf0 gf1 gf2 gf3 gf4 gbl
        go_wp2
        go_roundg 2
        case measure => omega
        case rel => exact ⟨6, rfl, rfl, by omega, (hr5.trans hm6).alloc _⟩
      · have n0 : wr.cell? ⟨nb, 6, none⟩ = some (.func (.func 101) #[] #[]) := hnb5.cell 6
        go_wp2_with fail
        refine (hTN 101 (by simp) wr hm5).mono ?_
        rintro e w6 ⟨rfl, hm6⟩
        clear n0 g0 g1 g2 g3 g4 gf0 gf1 gf2 gf3 gf4 gbl
        go_wp2
        go_roundg 1
        case measure => omega
        case rel => exact ⟨7, rfl, rfl, by omega, (hr5.trans hm6).alloc _⟩
      · have n0 : wr.cell? ⟨nb, 7, none⟩ = some (.func (.func 102) #[] #[]) := hnb5.cell 7
        go_wp2_with fail
        refine (hTN 102 (by simp) wr hm5).mono ?_
        rintro e w6 ⟨rfl, hm6⟩
        clear n0 g0 g1 g2 g3 g4 gf0 gf1 gf2 gf3 gf4 gbl
        go_wp2
        go_roundg 0
        case measure => omega
        case rel => exact ⟨8, rfl, rfl, by omega, (hr5.trans hm6).alloc _⟩
      · have h5 := h0.same hm5
        have hown5 := ownsRow_keep hown0 hm5 (fun _ _ x => x)
        have hO5 := hO0.keep hm5 (fun x => x)
        go_wp2_with fail
        refine (newPara_first bp g 0 cap { p with depth := 0 } T v l text 0 nl wr h5 rfl (by omega) (by omega) hs hO5 hown5).mono ?_
        rintro e w6 ⟨rfl, hpn⟩
        go_wp2
        try rw [Exit.noGoto_normal]
        go_end0
        refine ⟨rfl, ?_, ?_⟩
        · exact ((hm0.mono (fun _ _ h => Or.inl h)).then (hm5.trans (Mods.refl _ _)) (fun _ _ h => absurd h (fun x => x))).then hpn.mods (fun _ _ h => h)
        · obtain ⟨g6, cap6, bb, tv, x1, x2, x3, x4, x5, x6, x7⟩ := hpn.ex
          exact ⟨g6, cap6, bb, tv, x1, x2, x3, x4, by have := hm0.size; have := hm5.size; omega, fun hlt => x6 (by have := hm0.size; have := hm5.size; omega), fun k hk => by have := x7 k hk; have := hm0.size; have := hm5.size; omega⟩
end Go.Proofs.YtdnlfdppjfjncaaGreatDoor

/- Seven signs # are no heading. -/
namespace Go.Proofs.YtdnlfdppjfjncaaGreatDoor
open Go Go.RowKit Go.Proofs

/-- Seven # stand at place i. -/
def Seven (text : ByteArray) (i : Nat) : Prop := ∀ u, u < 7 → at0 text (i + u) = 35

theorem at0_lt {text : ByteArray} {i : Nat} {c : UInt8} (h : at0 text i = c) (hc : c ≠ 0) : ∃ hi : i < text.size, text[i] = c := by
  unfold at0 at h
  split at h
  · rename_i hi; exact ⟨hi, h⟩
  · exact absurd h.symm hc

set_option maxHeartbeats 4000000 in
theorem trimHeading_seven (b : Nat) (q : Value) (text : ByteArray) (i : Nat) (nl : Int) (w : World) (hi : i ≤ text.size) (hT : Txt text) (hL : LineAt w b i text nl)
    (h7 : Seven text (p3 text i)) :
    Calls Tryz.prog 135 #[.pointer (some ⟨b, 0, none⟩), q] w fun e w' => e = .returned (.bool false) ∧ Same w w' := by
  have hp := (p3_le hi).2
  obtain ⟨h0, h1, h2, h3, h4, hf0, hf1, hf2, hf3, hf4, hbl⟩ := hL.facts
  have H7 := Lib.hid (fun u (hu : u < 7) => at0_lt (h7 u hu) (by decide))
  clear h7
  go_enter Tryz.func135, Tryz.ntmps135
  go_wp2_with fail
  generalize hW : (w.alloc _ : World) = W
  have hm0 : Same w W := by subst hW; exact (Mods.refl _ w).alloc _
  have hl : LineAt W (w.heap.size) i text nl := by subst hW; exact Blk.newAt _ _ rfl
  clear hW h0 h1 h2 h3 h4 hf0 hf1 hf2 hf3 hf4 hbl hL
  refine (trimSpace_03 _ text i nl W hi hT hl).mono ?_
  rintro e w1 ⟨rfl, hm1, hl1⟩
  have hk : Same w w1 := hm0.then hm1 (by intro b hb; omega)
  clear hl hm0 hm1
  go_wp2_with fail
  obtain ⟨q0, q1⟩ := H7.out 0 (by omega)
  refine (trim_yes _ _ text 35 nl w1 hT.size hl1 q0 (by have : text[p3 text i] = 35 := q1; rw [this]; rfl)).mono ?_
  rintro e w2 ⟨rfl, hm2, hl2⟩
  have hk2 : Same w w2 := hk.then hm2 (by intro b hb; omega)
  clear hl1 hm2 hk q1
  generalize hP : p3 text i = P at *
  clear hP
  go_wp2_with fail
  go_loopg [6] 5 (fun g n wr => ∃ k : Nat, g = 6 - k ∧ n = .int .i64 k ∧ 1 ≤ k ∧ k ≤ 6 ∧ Same w wr ∧ LineAt wr w.heap.size (P + k) text nl)
  case atStart => exact ⟨1, rfl, rfl, by omega, by omega, hk2, hl2⟩
  case round =>
    clear hk2 hl2
    obtain ⟨k, hg, rfl, hk1, hk6, hmw, hlw⟩ := hrel
    have HG := Lib.hid hg
    clear hg
    by_cases hlt : k < 6
    · have v1 : (k : Int) < 6 := by omega
      have v3 : IntKind.i64.wrap ((k : Int) + 1) = (k : Int) + 1 := IntWalk.i64_in _ (by omega)
      obtain ⟨r0, r1⟩ := H7.out k (by omega)
      have HR := Lib.hid r1
      clear r1
      go_wp2_with fail
      refine (trim_yes _ _ text 35 nl wr hT.size hlw r0 (by rw [HR.out]; rfl)).mono ?_
      rintro e w3 ⟨rfl, hm3, hl3⟩
      go_wp2_with fail
      go_roundg (6 - (k + 1))
      case measure => have := HG.out; omega
      case rel => exact ⟨k + 1, rfl, rfl, by omega, by omega, hmw.then hm3 (by intro b hb; omega), hl3⟩
    · have v1 : ¬ (k : Int) < 6 := by omega
      have hk : k = 6 := by omega
      obtain ⟨r0, r1⟩ := H7.out 6 (by omega)
      have hr : at0 text (P + 6) ≠ 32 := by rw [at0_eq r0, r1]; decide
      have hno : ¬ text.size ≤ P + 6 := by omega
      have HR := Lib.hid hr
      clear r1 hr
      subst hk
      go_wp2_with fail
      refine (trimSpace_11 _ text (P + 6) true nl wr (by omega) hT hlw).mono ?_
      rintro e w3 (⟨hs, rfl, hm3, hl3⟩ | ⟨hs, rfl, hm3, hl3⟩)
      · exact absurd hs HR.out
      · have hd : (true && decide (text.size ≤ P + 6)) = false := by simp; omega
        rw [hd]
        clear hs hd
        go_wp2
        go_ret
        exact ⟨rfl, hmw.then hm3 (by intro b hb; omega)⟩

set_option maxHeartbeats 1000000 in
theorem newATX_seven (p : Value) (text : ByteArray) (i : Nat) (nl : Int) (w : World) (hi : i ≤ text.size) (hT : Txt text) (h7 : Seven text (p3 text i)) :
    Calls Tryz.prog 96 #[p, LV i text nl] w fun e w' => e = .returned (.tuple #[LV i text nl, .bool false]) ∧ Same w w' := by
  go_enter Tryz.func96, Tryz.ntmps96
  go_wp2_with fail
  generalize hW : ((((w.alloc _).alloc _).alloc _).alloc _ : World) = W
  have hm0 : Same w W := by subst hW; exact ((((Mods.refl _ w).alloc _).alloc _).alloc _).alloc _
  have hb : LineAt W w.heap.size i text nl := by subst hW; exact (((Blk.newAt _ _ rfl).alloc _).alloc _).alloc _
  have hr : LineAt W (w.heap.size + 1) 0 ⟨#[]⟩ 0 := by subst hW; exact ((Blk.newAt _ _ (by simp)).alloc _).alloc _
  have hl : LineAt W (w.heap.size + 1 + 1) i text nl := by subst hW; exact (Blk.newAt _ _ (by simp)).alloc _
  clear hW
  refine (trimHeading_seven _ _ text i nl W hi hT hl h7).mono ?_
  rintro e w1 ⟨rfl, hm1⟩
  have hk : Same w w1 := hm0.trans hm1
  have hb1 := Same.blk hm1 hb
  have hr1 := Same.blk hm1 hr
  obtain ⟨g0, g1, g2, g3, g4, gf0, gf1, gf2, gf3, gf4, gbl⟩ := LineAt.facts hb1
  obtain ⟨r0, r1, r2, r3, r4, rf0, rf1, rf2, rf3, rf4, rbl⟩ := LineAt.facts hr1
  clear hb hr hb1 hm1 hm0 h7 hl
  go_wp2
  exact bodyPost_ret (v := .tuple #[LV i text nl, .bool false]) (by simp [results, Tryz.results96, go_sem, r0, r1, r2, r3, r4]) rfl ⟨rfl, by
    exact hk.then ((put5 hr1 i text nl).1) (by intro b hb; omega)⟩

/-- The line begins a paragraph: no sign of a block, or seven # and more. -/
def Begins (text : ByteArray) (i : Nat) : Prop := Plain text i ∨ Seven text (p3 text i)

theorem triesNo_begins (bp g n cap : Nat) (p : PSt) (T : Nat) (v : Value) (text : ByteArray) (i : Nat) (nl : Int) (w : World) (h : NoPara w bp g n cap p T v) (hd : p.depth = n)
    (hT4 : T ≠ 242) (hi : i ≤ text.size) (hT : Txt text) (hP : Begins text i) : TriesNo w bp i text nl := by
  rcases hP with hP | h7
  · exact triesNo_first bp g n cap p T v text i nl w h hd hT4 hi hT hP
  · intro f hf W hW
    have h1 := h.same hW
    have h35 : at0 text (p3 text i) = 35 := h7 0 (by omega)
    have hc : ∀ k : Int, k ≠ 35 → ((at0 text (p3 text i)).toNat : Int) ≠ k := by
      intro k hk e; rw [h35] at e; exact hk e.symm
    have h32 : at0 text (p3 text i) ≠ 32 := by rw [h35]; decide
    have hno : ItemNo text i := by
      left
      intro k hk
      refine hc k ?_
      rintro rfl
      revert hk
      decide
    simp only [List.mem_cons, List.not_mem_nil, or_false] at hf
    rcases hf with rfl | rfl | rfl | rfl | rfl | rfl | rfl | rfl
    · exact newQuote_no _ text i nl W hi hT (hc _ (by decide))
    · exact newATX_seven _ text i nl W hi hT h7
    · exact newSetext_first bp g n cap p T v text i nl W h1 hd
    · exact newHR_no _ text i nl W hi hT (hc _ (by decide)) (hc _ (by decide)) (hc _ (by decide))
    · exact newListItem_no bp g (n + 1) cap none p T n v text i nl W h1.at_ h1.stack hd (by omega) h1.small h1.top hT4 hi hT hno
    · exact newHTML_no _ text i nl W hi hT (hc _ (by decide))
    · exact newFence_no _ text i nl W hi hT (hc _ (by decide)) (hc _ (by decide))
    · exact newPre_first bp g n cap p T v text i nl W hi hT h1 h32
end Go.Proofs.YtdnlfdppjfjncaaGreatDoor

/- The trials for blocks where a paragraph is open: a line that goes on with it. -/
namespace Go.Proofs.YtdnlfdppjfjncaaGreatDoor
open Go Go.RowKit Go.Proofs

/-- A paragraph is open, at place n of the stack. -/
structure InPara (w : World) (bp g n cap : Nat) (p : PSt) (bb : Nat) : Prop where
  at_ : PsAt w bp p
  stack : p.stack = .slice (some ⟨g, 0, none⟩) (n + 1) cap
  small : n ≤ 1000
  top : w.cell? ⟨g, n * 4, none⟩ = some (.iface 162 (.pointer (some ⟨bb, 0, none⟩)))

theorem InPara.same {w w' : World} {bp g n cap : Nat} {p : PSt} {bb : Nat} (h : InPara w bp g n cap p bb) (hm : Same w w') : InPara w' bp g n cap p bb :=
  ⟨h.at_.same hm, h.stack, h.small, (World.cell?_of_block (hm.block g (World.block_lt_of_cell? _ _ h.top) (fun x => x))).trans h.top⟩

set_option maxHeartbeats 2000000 in
/-- The paragraph is the next block: a line under it would make it a heading, this one does not. -/
theorem newSetext_cont (bp g n cap : Nat) (p : PSt) (bb : Nat) (text : ByteArray) (i : Nat) (nl : Int) (w : World) (h : InPara w bp g n cap p bb) (d : Nat) (hd : p.depth = d) (hdn : d + 1 = n) (hi : i ≤ text.size) (hT : Txt text)
    (c1 : ((at0 text (p3 text i)).toNat : Int) ≠ 45) (c2 : ((at0 text (p3 text i)).toNat : Int) ≠ 61) :
    Calls Tryz.prog 97 #[.pointer (some ⟨bp, 0, none⟩), LV i text nl] w fun e w' => e = .returned (.tuple #[LV i text nl, .bool false]) ∧ Same w w' := by
  subst hdn
  have hsm := h.small
  have hq := eql_para_para
  go_enter Tryz.func97, Tryz.ntmps97
  go_wp2_with fail
  generalize hW : ((((w.alloc _).alloc _).alloc _).alloc _ : World) = W
  have hm0 : Same w W := by subst hW; exact ((((Mods.refl _ w).alloc _).alloc _).alloc _).alloc _
  have hb : LineAt W w.heap.size i text nl := by subst hW; exact (((Blk.newAt _ _ rfl).alloc _).alloc _).alloc _
  have hr : LineAt W (w.heap.size + 1) 0 ⟨#[]⟩ 0 := by subst hW; exact ((Blk.newAt _ _ (by simp)).alloc _).alloc _
  have hl : LineAt W (w.heap.size + 1 + 1 + 1) i text nl := by subst hW; exact Blk.newAt _ _ (by simp)
  clear hW
  have h1 := h.same hm0
  refine (nextB_some bp g _ _ p W h1.at_ h1.stack d hd (by omega) (by omega) _ h1.top).mono ?_
  rintro e w1 ⟨rfl, n1, rfl⟩
  go_wp2_with fail
  refine (para_yes bp g (d + 1) cap p _ _ (h1.at_.drewN n1) h1.stack (by omega) h1.top).mono ?_
  rintro e w2 ⟨rfl, n2, rfl⟩
  have hm2 : Same w ((W.drewN n1).drewN n2) := (hm0.drewN n1).drewN n2
  have hb2 : LineAt ((W.drewN n1).drewN n2) w.heap.size i text nl := hb
  have hr2 : LineAt ((W.drewN n1).drewN n2) (w.heap.size + 1) 0 ⟨#[]⟩ 0 := hr
  have hl2 : LineAt ((W.drewN n1).drewN n2) (w.heap.size + 1 + 1 + 1) i text nl := hl
  generalize (W.drewN n1).drewN n2 = W2 at *
  clear hb hr hl h1 h hd hm0
  go_wp2_with fail
  refine (trimSetext_no _ _ text i nl W2 hi hT hl2 c1 c2).mono ?_
  rintro e w3 ⟨rfl, hm3⟩
  have hb3 := Same.blk hm3 hb2
  have hr3 := Same.blk hm3 hr2
  have hk := hm2.trans hm3
  obtain ⟨g0, g1, g2, g3, g4, gf0, gf1, gf2, gf3, gf4, gbl⟩ := LineAt.facts hb3
  obtain ⟨r0, r1, r2, r3, r4, rf0, rf1, rf2, rf3, rf4, rbl⟩ := LineAt.facts hr3
  clear hb2 hr2 hl2 hb3 hm2 hm3 c1 c2
  go_wp2
  exact bodyPost_ret (v := .tuple #[LV i text nl, .bool false]) (by simp [results, Tryz.results97, go_sem, r0, r1, r2, r3, r4]) rfl ⟨rfl, by
    exact hk.then ((put5 hr3 i text nl).1) (by intro b hb; omega)⟩

set_option maxHeartbeats 1000000 in
theorem newPre_cont (bp g n cap : Nat) (p : PSt) (bb : Nat) (text : ByteArray) (i : Nat) (nl : Int) (w : World) (h : InPara w bp g n cap p bb) :
    Calls Tryz.prog 102 #[.pointer (some ⟨bp, 0, none⟩), LV i text nl] w fun e w' => e = .returned (.tuple #[LV i text nl, .bool false]) ∧ Same w w' := by
  have hsm := h.small
  go_enter Tryz.func102, Tryz.ntmps102
  go_wp2_with fail
  generalize hW : (((w.alloc _).alloc _).alloc _ : World) = W
  have hm0 : Same w W := by subst hW; exact (((Mods.refl _ w).alloc _).alloc _).alloc _
  have hb : LineAt W w.heap.size i text nl := by subst hW; exact ((Blk.newAt _ _ rfl).alloc _).alloc _
  have hr : LineAt W (w.heap.size + 1) 0 ⟨#[]⟩ 0 := by subst hW; exact (Blk.newAt _ _ (by simp)).alloc _
  clear hW
  have h1 := h.same hm0
  refine (para_yes bp g n cap p _ W h1.at_ h1.stack (by omega) h1.top).mono ?_
  rintro e w1 ⟨rfl, n1, rfl⟩
  have hd1 : Same W (W.drewN n1) := (Mods.refl _ W).drewN n1
  have hb1 := Same.blk hd1 hb
  have hr1 := Same.blk hd1 hr
  have hk := hm0.trans hd1
  generalize W.drewN n1 = W1 at *
  obtain ⟨g0, g1, g2, g3, g4, gf0, gf1, gf2, gf3, gf4, gbl⟩ := LineAt.facts hb1
  obtain ⟨r0, r1, r2, r3, r4, rf0, rf1, rf2, rf3, rf4, rbl⟩ := LineAt.facts hr1
  clear hb hr hb1 hm0 hd1 h h1
  go_wp2_with fail
  exact bodyPost_ret (v := .tuple #[LV i text nl, .bool false]) (by simp [results, Tryz.results102, go_sem, r0, r1, r2, r3, r4]) rfl ⟨rfl, by
    exact hk.then ((put5 hr1 i text nl).1) (by intro b hb; omega)⟩
end Go.Proofs.YtdnlfdppjfjncaaGreatDoor

/- What the builders ask of the state; building a paragraph, and the document. -/
namespace Go.Proofs.YtdnlfdppjfjncaaGreatDoor
open Go Go.RowKit Go.Proofs

theorem row_cells {w : World} {g cap n : Nat} {l : List Value} {c i : Value} {s e : Int}
    (hown : w.ownsRow 0 121 4 (.slice (some ⟨g, 0, none⟩) (n + 1) cap) (n + 1) (l ++ [c, i, .int .i64 s, .int .i64 e])) :
    w.cell? ⟨g, n * 4, none⟩ = some c ∧ w.cell? ⟨g, n * 4 + 1, none⟩ = some i ∧ w.cell? ⟨g, n * 4 + 2, none⟩ = some (.int .i64 s) ∧ w.cell? ⟨g, n * 4 + 3, none⟩ = some (.int .i64 e) ∧
      (∀ k, w.frozen? ⟨g, k, none⟩ = false) ∧ g < w.heap.size := by
  have hlen : l.length = n * 4 := by have := hown.1; simp at this; omega
  obtain ⟨_, _, he, ⟨cur, hcur⟩, hf, hg⟩ := ownsRow_form hown (by omega)
  cases he
  exact ⟨hg _ _ (by simp [hlen]), hg _ _ (by simp [hlen]), hg _ _ (by simp [hlen]), hg _ _ (by simp [hlen]), hf, hcur.lt⟩

set_option maxHeartbeats 1000000 in
theorem pos_any (bp g n cap : Nat) (p : PSt) (l : List Value) (c i : Value) (s e : Int) (w : World) (hp : PsAt w bp p) (hst : p.stack = .slice (some ⟨g, 0, none⟩) (n + 1) cap) (hn : n ≤ 1000)
    (hown : w.ownsRow 0 121 4 (.slice (some ⟨g, 0, none⟩) (n + 1) cap) (n + 1) (l ++ [c, i, .int .i64 s, .int .i64 e])) :
    Calls Tryz.prog 260 #[.pointer (some ⟨bp, 0, none⟩)] w fun e' w' => e' = .returned (.agg #[.int .i64 s, .int .i64 e]) ∧ Same w w' := by
  obtain ⟨c0, c1, c2, c3, cf, cl⟩ := row_cells hown
  have k4 := hp.stack
  rw [hst] at k4
  clear hst
  have cf2 := cf (n * 4 + 2)
  clear cf
  have w1 : IntKind.i64.wrap (n : Int) = n := IntWalk.i64_in _ (by omega)
  have w2 : (0 : Int) ≤ n := by omega
  have w3 : (n : Int) < (n : Int) + 1 := by omega
  have hbl := hp.lt
  go_enter Tryz.func260, Tryz.ntmps260
  go_wp2_with fail
  go_quiet (fail)
  go_wp2
  exact bodyPost_ret (v := .agg #[.int .i64 s, .int .i64 e]) (by simp [results, Tryz.results260, go_sem]) rfl ⟨rfl, by
    have h1 : Same w ((w.alloc (.cells #[.int .i64 0, .int .i64 0] 108)).drewN nq) := ((Mods.refl _ w).alloc _).drewN nq
    exact (h1.setCell (p := ⟨w.heap.size, 0, none⟩) (fun h => absurd h (Nat.lt_irrefl _)) _).setCell (p := ⟨w.heap.size, 1, none⟩) (fun h => absurd h (Nat.lt_irrefl _)) _⟩

set_option maxHeartbeats 1000000 in
theorem blocks_any (bp g n cap : Nat) (p : PSt) (l : List Value) (c i : Value) (s e : Int) (w : World) (hp : PsAt w bp p) (hst : p.stack = .slice (some ⟨g, 0, none⟩) (n + 1) cap) (hn : n ≤ 1000)
    (hown : w.ownsRow 0 121 4 (.slice (some ⟨g, 0, none⟩) (n + 1) cap) (n + 1) (l ++ [c, i, .int .i64 s, .int .i64 e])) :
    Calls Tryz.prog 259 #[.pointer (some ⟨bp, 0, none⟩)] w fun e' w' => e' = .returned i ∧ ∃ k, w' = w.drewN k := by
  obtain ⟨c0, c1, c2, c3, cf, cl⟩ := row_cells hown
  have k4 := hp.stack
  rw [hst] at k4
  clear hst cf
  have w1 : IntKind.i64.wrap (n : Int) = n := IntWalk.i64_in _ (by omega)
  have w2 : (0 : Int) ≤ n := by omega
  have w3 : (n : Int) < (n : Int) + 1 := by omega
  have hbl := hp.lt
  go_enter Tryz.func259, Tryz.ntmps259
  go_wp2_with fail
  go_quiet (fail)
  go_wp2
  go_ret
  exact ⟨rfl, _, rfl⟩

set_option maxHeartbeats 1000000 in
theorem skipSpace_none (s : ByteArray) (i : Nat) (w : World) (hi : i < s.size) (_hs : s.size ≤ 1000000)
    (h1 : s[i] ≠ 32) (h2 : s[i] ≠ 9) (h3 : s[i] ≠ 10) :
    Calls Tryz.prog 124 #[.string s, .int .i64 i] w fun e w' => e = .returned (.int .i64 i) ∧ w = w' := by
  have e1 : ((s[i].toNat : Int) == 32) = false := beq_eq_false_iff_ne.2 (ne32 h1)
  have e2 : ((s[i].toNat : Int) == 9) = false := beq_eq_false_iff_ne.2 (ne9 h2)
  have e3 : ((s[i].toNat : Int) == 10) = false := beq_eq_false_iff_ne.2 (fun e => h3 (UInt8.toNat_inj.1 (by show _ = 10; omega)))
  clear h1 h2 h3
  go_enter Tryz.func124, Tryz.ntmps124
  go_wp2
  go_loopg [1] 0 (fun g j wr => w = wr ∧ j = .int .i64 i)
  case atStart => exact ⟨rfl, rfl⟩
  case round =>
    obtain ⟨rfl, rfl⟩ := hrel
    go_wp2
    go_ret
    exact ⟨rfl, rfl⟩

set_option maxHeartbeats 1000000 in
theorem parseLinkLabel_no (q : Value) (s : ByteArray) (i : Nat) (w : World) (hi : i < s.size) (_hs : s.size ≤ 1000000) (h1 : s[i] ≠ 91) :
    Calls Tryz.prog 127 #[q, .string s, .int .i64 i] w fun e w' => e = .returned (.tuple #[.string ⟨#[]⟩, .int .i64 0, .bool false]) ∧ w = w' := by
  have e1 : ((s[i].toNat : Int) != 91) = true := bne_iff_ne.2 (fun e => h1 (UInt8.toNat_inj.1 (by show _ = 91; omega)))
  go_enter Tryz.func127, Tryz.ntmps127
  go_wp2
  go_ret3
  exact ⟨rfl, rfl⟩

theorem as_ps_yes (v : Value) (w : World) : (Instr.typeAssert (.iface 116 v) 343 116 false).run Tryz.prog w = .ok v w := by kernel_rfl

set_option maxRecDepth 100000 in
set_option maxHeartbeats 1000000 in
theorem parseLinkRefDef_no (q : Value) (s : ByteArray) (w : World) (h0 : 0 < s.size) (hs : s.size ≤ 1000000) (h1 : s[0] ≠ 32) (h2 : s[0] ≠ 9) (h3 : s[0] ≠ 10) (h4 : s[0] ≠ 91) :
    Calls Tryz.prog 291 #[.iface 116 q, .string s] w fun e w' => e = .returned (.tuple #[.int .i64 0, .bool false]) ∧ w = w' := by
  have hA := as_ps_yes
  go_enter Tryz.func291, Tryz.ntmps291
  go_wp2_with fail
  refine (skipSpace_none s 0 w h0 hs h1 h2 h3).mono ?_
  rintro e w' ⟨rfl, rfl⟩
  go_wp2_with fail
  refine (parseLinkLabel_no q s 0 w h0 hs h4).mono ?_
  rintro e w' ⟨rfl, rfl⟩
  go_wp2
  go_ret2
  exact ⟨rfl, rfl⟩
end Go.Proofs.YtdnlfdppjfjncaaGreatDoor

/- newText; a paragraph is built. -/
namespace Go.Proofs.YtdnlfdppjfjncaaGreatDoor
open Go Go.RowKit Go.Proofs

/-- What newText leaves. -/
structure Texted (w w' : World) (bp : Nat) (p : PSt) (nt : Nat) (lt : List Value) (tb : Nat) (s e : Int) (raw : ByteArray) : Prop where
  mods : Mods (fun k => k = bp ∨ p.texts.ownBlock = some k) w w'
  new : w.heap.size ≤ tb
  text : Blk w' tb #[.int .i64 s, .int .i64 e, .slice none 0 0, .string raw] 110
  ex : ∃ g cap, PsAt w' bp { p with texts := .slice (some ⟨g, 0, none⟩) (nt + 1) cap } ∧
    w'.ownsRow 0 105 1 (.slice (some ⟨g, 0, none⟩) (nt + 1) cap) (nt + 1) (lt ++ [.pointer (some ⟨tb, 0, none⟩)])

set_option maxHeartbeats 2000000 in
theorem newText_any (bp nt : Nat) (p : PSt) (lt : List Value) (s e : Int) (raw : ByteArray) (w : World) (hp : PsAt w bp p) (hown : w.ownsRow 0 105 1 p.texts nt lt) (hnt : nt ≤ 100000) :
    Calls Tryz.prog 142 #[.pointer (some ⟨bp, 0, none⟩), .agg #[.int .i64 s, .int .i64 e], .string raw] w fun e' w' => ∃ tb, e' = .returned (.pointer (some ⟨tb, 0, none⟩)) ∧ Texted w w' bp p nt lt tb s e raw := by
  go_enter Tryz.func142, Tryz.ntmps142
  have k11 := hp.texts
  have hbl := hp.lt
  generalize htx : p.texts = tx at *
  go_wp2_with (at_builtin; refine ap_txt rfl (.tmp 16) (.tmp 18) rfl tx nt lt rfl (((hown.alloc _).alloc _).alloc _) (w.heap.size + 1 + 1) 1 (some ⟨w.heap.size + 1, 0, none⟩) rfl ?_ (by omega) ?_)
  · exact (Blk.newAt (n := w.heap.size + 1 + 1) _ _ (by simp)).cell 0
  · intro g cap w1 hown1 hgrow hloc
    generalize hW : (((w.alloc _).alloc _).alloc _ : World) = W at *
    have hm0 : Same w W := by subst hW; exact (((Mods.refl _ w).alloc _).alloc _).alloc _
    have hsz : W.heap.size = w.heap.size + 3 := by subst hW; simp
    have hT : Blk W (w.heap.size + 1) #[.int .i64 s, .int .i64 e, .slice none 0 0, .string raw] 110 := by
      subst hW; exact (Blk.newAt _ _ (by simp)).alloc _
    clear hW
    have hmA := grown_mods hgrow
    have hp1 : PsAt w1 bp p := by
      refine (hp.same hm0).keep hmA (fun h => ?_)
      obtain ⟨tail, htl⟩ := id hp
      rcases hown.2 with ⟨rfl, _⟩ | ⟨g', cap', cur', rfl, _, hg', _⟩
      · cases h
      · cases h
        exact Blk.ne_of_type (T := 105) hg' htl (by decide) rfl
    have hT1 := hT.keep hmA (fun h => by have := (hown.lt _ h).2; omega)
    have k11' := hp1.texts
    rw [htx] at k11'
    have f11 := hp1.fr 11
    have hbl1 := hp1.lt
    clear k11 hbl
    go_wp2
    go_ret
    obtain ⟨_, _, he, ⟨cur, hcur⟩, _, _⟩ := ownsRow_form hown1 (by omega)
    cases he
    obtain ⟨tail, htl⟩ := id hp1
    have hgbp : g ≠ bp := hcur.ne_of_type htl (by decide)
    have htbp : w.heap.size + 1 ≠ bp := hT1.ne_of_type htl (by decide)
    have hm2 : Mods (fun k => k = bp) w1 (w1.setCell ⟨bp, 11, none⟩ (.slice (some ⟨g, 0, none⟩) (nt + 1) cap)) := (Mods.refl (fun k => k = bp) w1).setCell (p := ⟨bp, 11, none⟩) (fun _ => rfl) _
    refine ⟨w.heap.size + 1, rfl, ?_, by omega, hT1.keep1 hm2 htbp, g, cap, hp1.set 11 _ _ rfl (by decide), ?_⟩
    · have m1 : Mods (fun k => k = bp ∨ p.texts.ownBlock = some k) w w1 := (hm0.mono (fun _ _ h => absurd h (fun x => x))).then hmA (fun _ _ h => Or.inr (by rw [htx]; exact h))
      exact m1.then hm2 (fun _ _ h => Or.inl h)
    · exact ownsRow_keep hown1 hm2 (fun g' hg' => by cases hg'; exact hgbp)

/-- newText beside a block of two numbers that it does not touch. -/
theorem newText_beside (bp nt : Nat) (p : PSt) (lt : List Value) (s e : Int) (raw : ByteArray) (w : World) (pb : Nat) (x y : Int) (hp : PsAt w bp p) (hown : w.ownsRow 0 105 1 p.texts nt lt) (hnt : nt ≤ 100000)
    (hP : Blk w pb #[.int .i64 x, .int .i64 y] 108) :
    Calls Tryz.prog 142 #[.pointer (some ⟨bp, 0, none⟩), .agg #[.int .i64 s, .int .i64 e], .string raw] w fun e' w' => ∃ tb, e' = .returned (.pointer (some ⟨tb, 0, none⟩)) ∧ Texted w w' bp p nt lt tb s e raw ∧
      w'.cell? ⟨pb, 0, none⟩ = some (.int .i64 x) ∧ w'.cell? ⟨pb, 1, none⟩ = some (.int .i64 y) :=
  (newText_any bp nt p lt s e raw w hp hown hnt).mono fun e' w' ⟨tb, he, hT⟩ => by
    have hk := hP.keep hT.mods (by
      intro h
      rcases h with h | h
      · obtain ⟨tail, htl⟩ := id hp
        exact hP.ne_of_type htl (by decide) h
      · rcases hown.2 with ⟨h2, _⟩ | ⟨g', cap', cur', h2, _, hg', _⟩
        · rw [h2] at h; cases h
        · rw [h2] at h
          have : g' = pb := Option.some.inj h
          exact hP.ne_of_type (T' := 105) hg' (by decide) this.symm)
    exact ⟨tb, he, hT, hk.cell 0, hk.cell 1⟩

theorem m_pos (k : Nat) (a : Addr) (w : World) : (method (k + 1) 116 (.pointer (some a)) "pub-paratext/pub/rscmarkdown.pos").run Tryz.prog w = .ok (260, .pointer (some a)) w := by kernel_rfl
theorem m_newText (k : Nat) (a : Addr) (w : World) : (method (k + 1) 116 (.pointer (some a)) "pub-paratext/pub/rscmarkdown.newText").run Tryz.prog w = .ok (142, .pointer (some a)) w := by kernel_rfl
theorem m_blocks (k : Nat) (a : Addr) (w : World) : (method (k + 1) 116 (.pointer (some a)) "pub-paratext/pub/rscmarkdown.blocks").run Tryz.prog w = .ok (259, .pointer (some a)) w := by kernel_rfl

/-- What building a paragraph leaves. -/
structure ParaBuilt (w w' : World) (bp : Nat) (p : PSt) (nt : Nat) (lt : List Value) (s e : Int) (raw : ByteArray) (v : Value) : Prop where
  mods : Mods (fun k => k = bp ∨ p.texts.ownBlock = some k) w w'
  ex : ∃ pk tb g cap, v = .iface 153 (.pointer (some ⟨pk, 0, none⟩)) ∧ w.heap.size ≤ pk ∧ w.heap.size ≤ tb ∧
    Blk w' pk #[.int .i64 s, .int .i64 e, .pointer (some ⟨tb, 0, none⟩)] 155 ∧
    Blk w' tb #[.int .i64 s, .int .i64 e, .slice none 0 0, .string raw] 110 ∧
    PsAt w' bp { p with texts := .slice (some ⟨g, 0, none⟩) (nt + 1) cap } ∧
    w'.ownsRow 0 105 1 (.slice (some ⟨g, 0, none⟩) (nt + 1) cap) (nt + 1) (lt ++ [.pointer (some ⟨tb, 0, none⟩)])

theorem ParaBuilt.mk' {w W w4 : World} {bp : Nat} {p : PSt} {nt : Nat} {lt : List Value} {s e : Int} {raw : ByteArray} {tb : Nat} (hk : Same w W) (hT : Texted W w4 bp p nt lt tb s e raw) :
    ParaBuilt w (w4.alloc (.cells #[.int .i64 s, .int .i64 e, .pointer (some ⟨tb, 0, none⟩)] 155)) bp p nt lt s e raw (.iface 153 (.pointer (some ⟨w4.heap.size, 0, none⟩))) := by
  obtain ⟨g, cap, hp, hrow⟩ := hT.ex
  have hm : Mods (fun k => k = bp ∨ p.texts.ownBlock = some k) w w4 := (hk.mono (fun _ _ h => absurd h (fun x => x))).then hT.mods (fun _ _ h => h)
  have h1 := hk.size
  have h2 := hT.mods.size
  have h3 := hT.new
  exact ⟨hm.alloc _, w4.heap.size, tb, g, cap, rfl, by omega, by omega, Blk.newAt _ _ rfl, hT.text.alloc _, hp.alloc _, hrow.alloc _⟩

set_option maxRecDepth 100000 in
set_option maxHeartbeats 2000000 in
theorem paraBuild_any (bp bb g n cap nt : Nat) (p : PSt) (l lt : List Value) (c i tv : Value) (sl el : Int) (nl : Nat) (_xs : List Value) (s : ByteArray) (w : World) (hp : PsAt w bp p) (hst : p.stack = .slice (some ⟨g, 0, none⟩) (n + 1) cap) (hn : n ≤ 1000)
    (hown : w.ownsRow 0 121 4 (.slice (some ⟨g, 0, none⟩) (n + 1) cap) (n + 1) (l ++ [c, i, .int .i64 sl, .int .i64 el]))
    (hB : Blk w bb #[tv, .pointer none] 166) (htv : ∃ a cp, tv = .slice a nl cp) (hnl : nl ≤ 100000)
    (htx : w.ownsRow 0 105 1 p.texts nt lt) (hnt : nt ≤ 100000)
    (hJ : ∀ W, Same w W → Calls Tryz.prog 29 #[tv, .string ⟨#[10]⟩] W fun e W' => e = .returned (.string s) ∧ Same W W')
    (h0 : 0 < s.size) (hs : s.size ≤ 1000000) (h1 : s[0] ≠ 32) (h2 : s[0] ≠ 9) (h3 : s[0] ≠ 10) (h4 : s[0] ≠ 91) (hsl : 0 ≤ sl) (hsl2 : sl ≤ 1000000) :
    Calls Tryz.prog 288 #[.pointer (some ⟨bb, 0, none⟩), .iface 116 (.pointer (some ⟨bp, 0, none⟩))] w
      fun e w' => ∃ v, e = .returned v ∧ ParaBuilt w w' bp p nt lt sl (sl + nl - 1) s v := by
  obtain ⟨a0, cp, rfl⟩ := htv
  have b0 : w.cell? ⟨bb, 0, none⟩ = some (.slice a0 nl cp) := hB.cell 0
  have b1 : w.cell? ⟨bb, 1, none⟩ = some (.pointer none) := hB.cell 1
  go_enter Tryz.func288, Tryz.ntmps288
  go_wp2_with fail
  refine (hJ w (Mods.refl _ _)).mono ?_
  rintro e w1 ⟨rfl, hm1⟩
  have hB1 := Same.blk hm1 hB
  clear b0 b1 hJ
  have e0 : s.toList.isEmpty = false := bs_ne h0
  have e0' : (!s.toList.isEmpty) = true := by rw [e0]; rfl
  go_wp2_with fail
  go_loopg [5, 6, 7] 0 (fun g a b c wr => w1 = wr ∧ a = .string s)
  case atStart => exact ⟨rfl, rfl⟩
  case round =>
    obtain ⟨rfl, rfl⟩ := hrel
    go_wp2_with fail
    refine (parseLinkRefDef_no _ s w1 h0 hs h1 h2 h3 h4).mono ?_
    rintro e w' ⟨rfl, rfl⟩
    have hpos := m_pos
    have hntx := m_newText
    go_wp2_with fail
    have hp1 := hp.same hm1
    have hown1 := ownsRow_keep hown hm1 (fun _ _ x => x)
    refine (pos_any bp g n cap p l c i sl el w1 hp1 hst hn hown1).mono ?_
    rintro e w2 ⟨rfl, hm2⟩
    have hB2 := Same.blk hm2 hB1
    have b0 : w2.cell? ⟨bb, 0, none⟩ = some (.slice a0 nl cp) := hB2.cell 0
    have b1 : w2.cell? ⟨bb, 1, none⟩ = some (.pointer none) := hB2.cell 1
    have bbl := hB2.lt
    have e1 : IntKind.i64.wrap (sl + nl) = sl + nl := IntWalk.i64_in _ (by omega)
    have e2 : IntKind.i64.wrap (sl + nl - 1) = sl + nl - 1 := IntWalk.i64_in _ (by omega)
    go_wp2_with fail
    go_region
    go_wp2_with fail
    generalize hX : ((w2.alloc _).drew : World) = W3
    have hm3 : Same w2 W3 := by subst hX; exact ((Mods.refl _ w2).alloc _).drew
    have hP3 : Blk W3 w2.heap.size #[.int .i64 sl, .int .i64 (sl + nl - 1)] 108 := by subst hX; exact Blk.newAt _ _ rfl
    clear hX b0 b1 bbl e1 e2
    have hm13 := (hm1.trans hm2).trans hm3
    have hp3 := hp.same hm13
    have htx3 := ownsRow_keep htx hm13 (fun _ _ x => x)
    have p0 : W3.cell? ⟨w2.heap.size, 0, none⟩ = some (.int .i64 sl) := hP3.cell 0
    have p1 : W3.cell? ⟨w2.heap.size, 1, none⟩ = some (.int .i64 (sl + nl - 1)) := hP3.cell 1
    go_region_with ((go_at_call 142; refine (newText_beside bp nt p lt sl (sl + nl - 1) s _ w2.heap.size sl (sl + nl - 1) (PsAt.drew hp3) htx3 hnt (Blk.drew hP3)).mono ?_; rintro e w4 ⟨tb, rfl, hT, q0, q1⟩))
    all_goals
      go_wp2
      go_ret
      exact ⟨_, rfl, ParaBuilt.mk' (hm13.drew) hT⟩
end Go.Proofs.YtdnlfdppjfjncaaGreatDoor

/- closeBlock where a paragraph is on top; where the document is. -/
namespace Go.Proofs.YtdnlfdppjfjncaaGreatDoor
open Go Go.RowKit Go.Proofs

theorem not_texts {w : World} {bp : Nat} {p : PSt} {nt : Nat} {lt : List Value} (hp : PsAt w bp p) (htx : w.ownsRow 0 105 1 p.texts nt lt) {b : Nat} {cs : Array Value} {T : Nat} (h : Blk w b cs T)
    (h1 : T ≠ 95) (h2 : T ≠ 105) : ¬ (b = bp ∨ p.texts.ownBlock = some b) := by
  intro hh
  rcases hh with hh | hh
  · obtain ⟨tail, htl⟩ := id hp
    exact h.ne_of_type htl h1 hh
  · rcases htx.2 with ⟨hv, _⟩ | ⟨g', cap', cur', hv, _, hg', _⟩
    · rw [hv] at hh; cases hh
    · rw [hv] at hh
      have : g' = b := Option.some.inj hh
      exact h.ne_of_type (T' := 105) hg' h2 this.symm

/-- A row of another type is kept where only the state and the list of texts have changed. -/
theorem row_texts {w w' : World} {bp : Nat} {p : PSt} {nt : Nat} {lt : List Value} (hp : PsAt w bp p) (htx : w.ownsRow 0 105 1 p.texts nt lt) (hm : Mods (fun k => k = bp ∨ p.texts.ownBlock = some k) w w')
    {e size n : Nat} {v : Value} {xs : List Value} (h : w.ownsRow 0 e size v n xs) (h1 : e ≠ 95) (h2 : e ≠ 105) : w'.ownsRow 0 e size v n xs := by
  refine ownsRow_keep h hm (fun g hg => ?_)
  rcases h.2 with ⟨hv, _⟩ | ⟨g', cap', cur', hv, _, hg', _⟩
  · rw [hv] at hg; cases hg
  · rw [hv] at hg
    have : g' = g := Option.some.inj hg
    subst this
    exact not_texts hp htx (T := e) hg' h1 h2

theorem ownsRow_pop {w : World} {e size n g cap : Nat} {xs ys : List Value} (h : w.ownsRow 0 e size (.slice (some ⟨g, 0, none⟩) (n + 1) cap) (n + 1) (xs ++ ys)) (hy : ys.length = size) :
    w.ownsRow 0 e size (.slice (some ⟨g, 0, none⟩) n cap) n xs := by
  obtain ⟨h1, h2⟩ := h
  have hx : xs.length = n * size := by
    rw [List.length_append, hy, Nat.add_mul] at h1
    omega
  refine ⟨hx, .inr ?_⟩
  rcases h2 with ⟨h2, _⟩ | ⟨g', cap', cur, hv, hb, hg, hc, hm, hs, ht⟩
  · cases h2
  · cases hv
    refine ⟨g, cap, cur, rfl, hb, hg, by omega, hm, hs, ?_⟩
    have : (cur.toList.take ((n + 1) * size)).take (n * size) = xs := by
      rw [ht, ← hx]; simp
    rw [← this, List.take_take, Nat.min_eq_left (by rw [Nat.add_mul]; omega)]

theorem eql_builder_nil (T : Nat) (v : Value) (w : World) : (binOp .eql 118 (.iface T v) .nilIface).run Tryz.prog w = .ok (.bool false) w := by kernel_rfl
theorem m_build_para (k : Nat) (a : Addr) (w : World) : (method (k + 1) 162 (.pointer (some a)) "pub-paratext/pub/rscmarkdown.build").run Tryz.prog w = .ok (288, .pointer (some a)) w := by kernel_rfl
theorem m_build_root (k : Nat) (a : Addr) (w : World) : (method (k + 1) 98 (.pointer (some a)) "pub-paratext/pub/rscmarkdown.build").run Tryz.prog w = .ok (247, .pointer (some a)) w := by kernel_rfl
theorem as_List_no (T X : Nat) (v : Value) (w : World) (h : T ≠ 111) :
    (Instr.typeAssert (.iface T v) X 111 true).run Tryz.prog w = .ok (.tuple #[.pointer none, .bool false]) w :=
  as_ptr_no T _ 149 (by kernel_rfl) (fun _ => by kernel_rfl) X v w h

/-- A row's block is none of another type's. -/
theorem own_ne {w : World} {e size n b T : Nat} {v : Value} {xs : List Value} {cs : Array Value} (h : w.ownsRow 0 e size v n xs) (hb : Blk w b cs T) (hT : T ≠ e) : ¬ v.ownBlock = some b := by
  intro hv
  rcases h.2 with ⟨h2, _⟩ | ⟨g', cap', cur', h2, _, hg', _⟩
  · rw [h2] at hv; cases hv
  · rw [h2] at hv
    have : g' = b := Option.some.inj hv
    subst this
    exact hb.ne_of_type (T' := e) hg' hT rfl
theorem own_ne_ps {w : World} {e size n bp : Nat} {p : PSt} {v : Value} {xs : List Value} (h : w.ownsRow 0 e size v n xs) (hp : PsAt w bp p) (he : e ≠ 95) : ¬ v.ownBlock = some bp := by
  obtain ⟨tail, htl⟩ := id hp
  exact own_ne h htl (Ne.symm he)
theorem own_ne_row {w : World} {e size n e' size' n' g : Nat} {v v' : Value} {xs xs' : List Value} (h : w.ownsRow 0 e size v n xs) (h' : w.ownsRow 0 e' size' v' n' xs') (hg : v'.ownBlock = some g) (he : e' ≠ e) : ¬ v.ownBlock = some g := by
  rcases h'.2 with ⟨h2, _⟩ | ⟨g', cap', cur', h2, _, hg', _⟩
  · rw [h2] at hg; cases hg
  · rw [h2] at hg
    have : g' = g := Option.some.inj hg
    subst this
    exact own_ne h hg' he

/-- What closing a paragraph leaves: the parent holds it. -/
structure ParaClosed (w w' : World) (bp g n cap nt ni : Nat) (p : PSt) (l lt li : List Value) (c inner : Value) (sp ep sl el : Int) (s : ByteArray) (v : Value) : Prop where
  mods : Mods (fun k => k = bp ∨ k = g ∨ p.texts.ownBlock = some k ∨ inner.ownBlock = some k) w w'
  ex : ∃ pk tb tg tc ig ic, v = .iface 153 (.pointer (some ⟨pk, 0, none⟩)) ∧ w.heap.size ≤ pk ∧ w.heap.size ≤ tb ∧
    Blk w' pk #[.int .i64 sl, .int .i64 el, .pointer (some ⟨tb, 0, none⟩)] 155 ∧
    Blk w' tb #[.int .i64 sl, .int .i64 el, .slice none 0 0, .string s] 110 ∧
    PsAt w' bp { p with texts := .slice (some ⟨tg, 0, none⟩) (nt + 1) tc, stack := .slice (some ⟨g, 0, none⟩) (n + 1) cap } ∧
    w'.ownsRow 0 105 1 (.slice (some ⟨tg, 0, none⟩) (nt + 1) tc) (nt + 1) (lt ++ [.pointer (some ⟨tb, 0, none⟩)]) ∧
    w'.ownsRow 0 121 4 (.slice (some ⟨g, 0, none⟩) (n + 1) cap) (n + 1) (l ++ [c, .slice (some ⟨ig, 0, none⟩) (ni + 1) ic, .int .i64 sp, .int .i64 ep]) ∧
    w'.ownsRow 0 68 1 (.slice (some ⟨ig, 0, none⟩) (ni + 1) ic) (ni + 1) (li ++ [.iface 153 (.pointer (some ⟨pk, 0, none⟩))])

theorem row_in {w : World} {g cap n j : Nat} {l : List Value} {c x y u : Value} {v : Value} (hlen : l.length = n * 4) (hj : j = n * 4 + 1)
    (h : w.ownsRow 0 121 4 (.slice (some ⟨g, 0, none⟩) (n + 1) cap) (n + 1) (l ++ [c, u, x, y])) :
    (w.setCell ⟨g, j, none⟩ v).ownsRow 0 121 4 (.slice (some ⟨g, 0, none⟩) (n + 1) cap) (n + 1) (l ++ [c, v, x, y]) := by
  subst hj
  have h1 := ownsRow_set h (n * 4 + 1) v (by omega)
  have e : (l ++ [c, u, x, y]).set (n * 4 + 1) v = l ++ [c, v, x, y] := by
    rw [← hlen]
    simp
  rw [e] at h1
  exact h1

set_option maxRecDepth 100000 in
set_option maxHeartbeats 4000000 in
theorem closePara (bp bb g n cap nt ni : Nat) (p : PSt) (l lt li : List Value) (c inner i tv : Value) (sp ep sl el : Int) (nl : Nat) (s : ByteArray) (w : World) (hp : PsAt w bp p) (hst : p.stack = .slice (some ⟨g, 0, none⟩) (n + 1 + 1) cap) (hn : n ≤ 100)
    (hown : w.ownsRow 0 121 4 (.slice (some ⟨g, 0, none⟩) (n + 1 + 1) cap) (n + 1 + 1) ((l ++ [c, inner, .int .i64 sp, .int .i64 ep]) ++ [.iface 162 (.pointer (some ⟨bb, 0, none⟩)), i, .int .i64 sl, .int .i64 el]))
    (hin : w.ownsRow 0 68 1 inner ni li) (hni : ni ≤ 100000)
    (hB : Blk w bb #[tv, .pointer none] 166) (htv : ∃ a cp, tv = .slice a nl cp) (hnl : nl ≤ 100000)
    (htx : w.ownsRow 0 105 1 p.texts nt lt) (hnt : nt ≤ 100000)
    (hJ : ∀ W, Same w W → Calls Tryz.prog 29 #[tv, .string ⟨#[10]⟩] W fun e W' => e = .returned (.string s) ∧ Same W W')
    (h0 : 0 < s.size) (hs : s.size ≤ 1000000) (h1 : s[0] ≠ 32) (h2 : s[0] ≠ 9) (h3 : s[0] ≠ 10) (h4 : s[0] ≠ 91) (hsl : 0 ≤ sl) (hsl2 : sl ≤ 1000000) :
    Calls Tryz.prog 73 #[.pointer (some ⟨bp, 0, none⟩)] w fun e w' => ∃ v, e = .returned v ∧ ParaClosed w w' bp g n cap nt ni p l lt li c inner sp ep sl (sl + nl - 1) s v := by
  obtain ⟨c0, c1, c2, c3, cf, cl⟩ := row_cells hown
  have k4 := hp.stack
  rw [hst] at k4
  have hbl := hp.lt
  have w1 : IntKind.i64.wrap ((n : Int) + 1) = (n : Int) + 1 := IntWalk.i64_in _ (by omega)
  have w2 : (0 : Int) ≤ (n : Int) + 1 := by omega
  have w3 : (n : Int) + 1 < (n : Int) + 1 + 1 := by omega
  have w4 : ((n : Int) + 1).toNat = n + 1 := by omega
  have hE := eql_builder_nil
  have hM := m_build_para
  clear cf
  go_enter Tryz.func73, Tryz.ntmps73
  go_wp2_with fail
  go_quiet (fail)
  go_wp2_with fail
  have hD : Same w (w.drewN nq) := (Mods.refl _ w).drewN nq
  generalize hW : (w.drewN nq : World) = W at *
  clear hW
  have hpW := hp.same hD
  have hownW := ownsRow_keep hown hD (fun _ _ x => x)
  have hinW := ownsRow_keep hin hD (fun _ _ x => x)
  have htxW := ownsRow_keep htx hD (fun _ _ x => x)
  refine (paraBuild_any bp bb g (n + 1) cap nt p _ lt _ i tv sl el nl [] s W hpW hst (by omega) hownW (Same.blk hD hB) htv hnl htxW hnt (fun X hX => hJ X (hD.trans hX)) h0 hs h1 h2 h3 h4 hsl hsl2).mono ?_
  rintro e wA ⟨v, rfl, hPB⟩
  obtain ⟨pk, tb, g2, cap2, rfl, hpk, htb, hP, hT, hpA, htxA⟩ := hPB.ex
  have hownA := row_texts hpW htxW hPB.mods hownW (by decide) (by decide)
  have hinA := row_texts hpW htxW hPB.mods hinW (by decide) (by decide)
  clear hJ c0 c1 c2 c3 k4 hbl hpW hinW htxW
  have k4 := hpA.stack
  have f4 := hpA.fr 4
  have hbl := hpA.lt
  have hL := as_List_no 153
  have hL2 := fun X v w => hL X v w (by decide)
  rw [hst] at k4
  have hcap : n + 1 + 1 ≤ cap := by
    rcases hownA.2 with ⟨h, _⟩ | ⟨_, _, _, h, _, _, hc, _⟩
    · cases h
    · cases h; exact hc
  have w5 : (n : Int) + 1 ≤ cap := by omega
  have w6 : IntKind.i64.wrap (n : Int) = n := IntWalk.i64_in _ (by omega)
  have w7 : (0 : Int) < (n : Int) + 1 := by omega
  have w8 : (n : Int) < (n : Int) + 1 := by omega
  have w9 : (0 : Int) ≤ (n : Int) := by omega
  clear hE hM
  go_wp2_with fail
  go_region
  go_wp2_with fail
  generalize hX : ((wA.setCell ⟨bp, 4, none⟩ (.slice (some ⟨g, 0, none⟩) (n + 1) cap)).drew : World) = X
  have hmX : Mods (fun k => k = bp) wA X := by subst hX; exact ((Mods.refl (fun k => k = bp) wA).setCell (p := ⟨bp, 4, none⟩) (fun _ => rfl) _).drew
  have hpX : PsAt X bp { p with texts := .slice (some ⟨g2, 0, none⟩) (nt + 1) cap2, stack := .slice (some ⟨g, 0, none⟩) (n + 1) cap } := by
    subst hX
    exact PsAt.drew (hpA.set 4 _ _ rfl (by decide))
  clear hX
  obtain ⟨tail, htl⟩ := id hpX
  have hne : ∀ {b : Nat} {cs : Array Value} {T : Nat}, Blk X b cs T → T ≠ 95 → b ≠ bp := fun h hT => h.ne_of_type htl hT
  have hneA : ∀ {e size m : Nat} {v : Value} {xs : List Value}, wA.ownsRow 0 e size v m xs → e ≠ 95 → ∀ b, v.ownBlock = some b → ¬ (b = bp) := by
    intro e size m v xs h he b hb
    obtain ⟨tailA, htlA⟩ := id hpA
    rcases h.2 with ⟨h2, _⟩ | ⟨g', cap', cur', h2, _, hg', _⟩
    · rw [h2] at hb; cases hb
    · rw [h2] at hb
      have : g' = b := Option.some.inj hb
      subst this
      exact Blk.ne_of_type (T := e) hg' htlA he
  have hownX := ownsRow_keep hownA hmX (hneA hownA (by decide))
  have htxX := ownsRow_keep htxA hmX (hneA htxA (by decide))
  have hinX := ownsRow_keep hinA hmX (hneA hinA (by decide))
  have hPX := hP.keep hmX (fun h => by obtain ⟨tailA, htlA⟩ := id hpA; exact hP.ne_of_type htlA (by decide) h)
  have hTX := hT.keep hmX (fun h => by obtain ⟨tailA, htlA⟩ := id hpA; exact hT.ne_of_type htlA (by decide) h)
  have hownP := ownsRow_pop hownX rfl
  obtain ⟨d0, d1, d2, d3, df, dl⟩ := row_cells hownP
  clear k4 f4 hbl
  have k4 := hpX.stack
  have hbl := hpX.lt
  go_quiet (fail)
  go_wp2_with (at_builtin; refine ap_blk rfl (.tmp 106) (.tmp 108) rfl inner ni li rfl ((ownsRow_keep hinX ((Mods.refl (fun _ => False) X).drewN nq) (fun _ _ x => x)).alloc _) X.heap.size 1 _ (.pointer (some ⟨pk, 0, none⟩)) rfl ((Blk.newAt _ _ rfl).cell 0) (by omega) ?_)
  intro ig ic wB hinB hgrow hloc
  generalize hZ : ((X.drewN nq).alloc _ : World) = Z at *
  have hmZ : Same X Z := by subst hZ; exact ((Mods.refl _ X).drewN nq).alloc _
  clear hZ
  have hmB := grown_mods hgrow
  have hpB := (hpX.same hmZ).keep hmB (own_ne_ps (ownsRow_keep hinX hmZ (fun _ _ x => x)) (hpX.same hmZ) (by decide))
  have hinZ := ownsRow_keep hinX hmZ (fun _ _ x => x)
  have htxB := ownsRow_keep (ownsRow_keep htxX hmZ (fun _ _ x => x)) hmB (fun k hk => own_ne_row hinZ (ownsRow_keep htxX hmZ (fun _ _ x => x)) hk (by decide))
  have hownB := ownsRow_keep (ownsRow_keep hownP hmZ (fun _ _ x => x)) hmB (fun k hk => own_ne_row hinZ (ownsRow_keep hownP hmZ (fun _ _ x => x)) hk (by decide))
  have hPB' := (Same.blk hmZ hPX).keep hmB (own_ne hinZ (Same.blk hmZ hPX) (by decide))
  have hTB' := (Same.blk hmZ hTX).keep hmB (own_ne hinZ (Same.blk hmZ hTX) (by decide))
  obtain ⟨q0, q1, q2, q3, qf, ql⟩ := row_cells hownB
  have qf1 := qf (n * 4 + 1)
  clear qf df d0 d1 d2 d3
  go_wp2
  go_ret
  have hgbp : g ≠ bp := fun h => own_ne_ps hownB hpB (by decide) (by rw [h]; rfl)
  have hgpk : pk ≠ g := fun h => own_ne hownB hPB' (by decide) (by rw [h]; rfl)
  have hgtb : tb ≠ g := fun h => own_ne hownB hTB' (by decide) (by rw [h]; rfl)
  have hmF : Mods (fun k => k = g) wB (wB.setCell ⟨g, n * 4 + 1, none⟩ (.slice (some ⟨ig, 0, none⟩) (ni + 1) ic)) := (Mods.refl (fun k => k = g) wB).setCell (p := ⟨g, n * 4 + 1, none⟩) (fun _ => rfl) _
  have hlen : l.length = n * 4 := by have := hownB.1; simp at this; omega
  refine ⟨_, rfl, ?_, pk, tb, g2, cap2, ig, ic, rfl, ?_, ?_, hPB'.keep1 hmF hgpk, hTB'.keep1 hmF hgtb, hpB.set_other (a := ⟨g, n * 4 + 1, none⟩) hgbp _, ?_, row_in hlen rfl hownB, ?_⟩
  · have m1 : Mods (fun k => k = bp ∨ k = g ∨ p.texts.ownBlock = some k ∨ inner.ownBlock = some k) w wA := (hD.mono (fun _ _ h => absurd h (fun x => x))).then hPB.mods (fun _ _ h => h.elim Or.inl (fun h => Or.inr (Or.inr (Or.inl h))))
    have m2 := m1.then hmX (fun _ _ h => Or.inl h)
    have m3 := m2.then hmZ (fun _ _ h => absurd h (fun x => x))
    have m4 := m3.then hmB (fun _ _ h => Or.inr (Or.inr (Or.inr h)))
    exact m4.then hmF (fun _ _ h => Or.inr (Or.inl h))
  · have := hD.size; omega
  · have := hD.size; omega
  · exact ownsRow_keep htxB hmF (fun k hk he => own_ne_row htxB hownB (g := g) rfl (by decide) (by rw [← he]; exact hk))
  · exact ownsRow_keep hinB hmF (fun k hk he => own_ne_row hinB hownB (g := g) rfl (by decide) (by rw [← he]; exact hk))
end Go.Proofs.YtdnlfdppjfjncaaGreatDoor
