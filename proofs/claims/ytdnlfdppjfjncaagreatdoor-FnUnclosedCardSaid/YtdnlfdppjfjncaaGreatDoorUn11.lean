/- Some texts of one proof, put into one file: Fence4, Fence5, Fence6, Close5, Fence7, ParseF. -/
import Derived.Test.YtdnlfdppjfjncaaGreatDoorFn10
/- The line that closes a fence; the code block is built. -/
namespace Go.Proofs.YtdnlfdppjfjncaaGreatDoor
open Go Go.RowKit Go.Proofs

set_option maxRecDepth 100000 in
set_option maxHeartbeats 8000000 in
theorem fence_closes (bp fb M : Nat) (tv : Value) (nl : Int) (w : World) (hM : 3 ≤ M) (hM9 : M ≤ 80000) (hE : EntAt w)
    (hB : Blk w fb #[.string (fenceT M), .string ⟨#[]⟩, .int .i64 0, tv] 253) :
    Calls Tryz.prog 340 #[.pointer (some ⟨fb, 0, none⟩), .pointer (some ⟨bp, 0, none⟩), LV 0 (fenceT M) nl] w fun e w' => e = .returned (.tuple #[zeroLV, .bool false]) ∧ Same w w' := by
  have hsz := fenceT_size M
  have hT : Txt (fenceT M) := ⟨by omega, fun j h => by rw [fenceT_get M j h]; decide⟩
  go_enter Tryz.func340, Tryz.ntmps340
  go_wp2_with fail
  generalize hW : ((((((w.alloc _).alloc _).alloc _).alloc _).alloc _).alloc _ : World) = W
  have hm0 : Same w W := by subst hW; exact ((((((Mods.refl _ w).alloc _).alloc _).alloc _).alloc _).alloc _).alloc _
  have hr : LineAt W (w.heap.size + 1) 0 ⟨#[]⟩ 0 := by subst hW; exact ((((Blk.newAt _ _ (by simp)).alloc _).alloc _).alloc _).alloc _
  have hf : Blk W (w.heap.size + 1 + 1) #[.string ⟨#[]⟩] 9 := by subst hW; exact (((Blk.newAt _ _ (by simp)).alloc _).alloc _).alloc _
  have hi : Blk W (w.heap.size + 1 + 1 + 1) #[.string ⟨#[]⟩] 9 := by subst hW; exact ((Blk.newAt _ _ (by simp)).alloc _).alloc _
  have hn4 : Blk W (w.heap.size + 1 + 1 + 1 + 1) #[.int .i64 0] 3 := by subst hW; exact (Blk.newAt _ _ (by simp)).alloc _
  have hl : LineAt W (w.heap.size + 1 + 1 + 1 + 1 + 1) 0 (fenceT M) nl := by subst hW; exact Blk.newAt _ _ (by simp)
  clear hW
  have hBW := hm0.blk hB
  have HT1 : ∀ V, Same W V → Calls Tryz.prog 151 #[.pointer (some ⟨w.heap.size + 1 + 1 + 1 + 1 + 1, 0, none⟩), .pointer (some ⟨w.heap.size + 1 + 1, 0, none⟩), .pointer (some ⟨w.heap.size + 1 + 1 + 1, 0, none⟩), .pointer (some ⟨w.heap.size + 1 + 1 + 1 + 1, 0, none⟩)] V fun e V' => e = .returned (.bool true) ∧
      Mods (fun k => k = w.heap.size + 1 + 1 + 1 + 1 ∨ k = w.heap.size + 1 + 1 + 1 + 1 + 1 ∨ k = w.heap.size + 1 + 1 ∨ k = w.heap.size + 1 + 1 + 1) V V' ∧ V'.cell? ⟨w.heap.size + 1 + 1, 0, none⟩ = some (.string (fenceT M)) ∧ V'.cell? ⟨w.heap.size + 1 + 1 + 1, 0, none⟩ = some (.string ⟨#[]⟩) ∧ V'.cell? ⟨fb, 0, none⟩ = some (.string (fenceT M)) :=
    fun V hV => (trimFence_any _ _ _ _ _ _ _ (fenceT M) nl V hT (by omega) (Same.blk hV hl) (hV.blk hn4) (hV.blk hf) (hV.blk hi) (by omega) ((hE.same hm0).same hV)).mono fun e V' h => by
      unfold FencePost at h
      rw [fence_bar hM] at h
      obtain ⟨h1, h2, _, h4, h5, _⟩ := h
      refine ⟨h1, h2, h4.cell 0, h5.cell 0, ?_⟩
      have := hB.lt
      exact ((hV.blk hBW).keep h2 (by omega)).cell 0
  have hPF : ∀ V, Calls Tryz.prog 45 #[.string (fenceT M), .string (fenceT M)] V fun e V' => e = .returned (.bool true) ∧ V = V' := fun V =>
    (hasPrefix_any (fenceT M) (fenceT M) V (by omega) (by omega)).mono fun e V' ⟨bb, h1, h2, h3⟩ => by
      have : bb = true := h3.2 ⟨Nat.le_refl _, ext_all _⟩
      rw [this] at h1
      exact ⟨h1, h2⟩
  go_cut [25] (fun s25 wx => s25 = .bool true ∧ Same w wx ∧ LineAt wx (w.heap.size + 1) 0 ⟨#[]⟩ 0)
  case first =>
    first
      | go_region_with (first
          | (go_at_call 151; refine (HT1 _ (by repeat (first | exact Mods.refl _ _ | apply Mods.drew))).mono ?_; rintro e1 w1 ⟨rfl, hm1, c1, c2, c3⟩)
          | (go_at_call 45; refine (hPF _).mono ?_; rintro e2 w2 ⟨rfl, rfl⟩))
      | fail
    all_goals
      have hr1 : LineAt w1 (w.heap.size + 1) 0 ⟨#[]⟩ 0 := Blk.keep (Blk.drew hr) hm1 (by omega)
      go_wp2_with fail
      go_meet
      case rel => exact ⟨rfl, (Mods.drew hm0).then hm1 (fun b hb h => by omega), hr1⟩
  case rest =>
    obtain ⟨rfl, hmx, hrx⟩ := hcut
    obtain ⟨r0, r1, r2, r3, r4, rf0, rf1, rf2, rf3, rf4, rbl⟩ := LineAt.facts hrx
    clear HT1 hPF
    go_wp2_with fail
    refine bodyPost_ret (v := .tuple #[zeroLV, .bool false]) (by simp [results, Tryz.results340, go_sem, r0, r1, r2, r3, r4]) rfl ⟨rfl, ?_⟩
    exact hmx.then ((put5 hrx 0 ⟨#[]⟩ 0).1) (by intro b hb; omega)

theorem m_build_fence (k : Nat) (a : Option Addr) (w : World) : (method (k + 1) 251 (.pointer a) "pub-paratext/pub/rscmarkdown.build").run Tryz.prog w = .ok (339, .pointer a) w := by kernel_rfl
theorem f_build_fence (args : Array Value) (w : World) : (callFunc 339 args).run Tryz.prog w = .ok (.enter 339 args) w := by kernel_rfl

/-- A block of code in memory. -/
def CodeAt (w : World) (v : Value) (M m : Nat) (xs : List Value) : Prop := ∃ cb g ct x y, v = .pointer (some ⟨cb, 0, none⟩) ∧ Blk w cb #[.int .i64 x, .int .i64 y, .string (fenceT M), .string ⟨#[]⟩, .slice (some ⟨g, 0, none⟩) m ct] 369 ∧
  w.ownsRow 0 9 1 (.slice (some ⟨g, 0, none⟩) m ct) m xs

set_option maxHeartbeats 4000000 in
theorem fenceBuild_any (bp fb g n cap M m gt ct : Nat) (p : PSt) (l : List Value) (c i : Value) (s e : Int) (xs : List Value) (w : World) (hp : PsAt w bp p) (hst : p.stack = .slice (some ⟨g, 0, none⟩) (n + 1) cap) (hn : n ≤ 1000)
    (hown : w.ownsRow 0 121 4 (.slice (some ⟨g, 0, none⟩) (n + 1) cap) (n + 1) (l ++ [c, i, .int .i64 s, .int .i64 e]))
    (hB : Blk w fb #[.string (fenceT M), .string ⟨#[]⟩, .int .i64 0, .slice (some ⟨gt, 0, none⟩) m ct] 253) (hx : w.ownsRow 0 9 1 (.slice (some ⟨gt, 0, none⟩) m ct) m xs) :
    Calls Tryz.prog 339 #[.pointer (some ⟨fb, 0, none⟩), .iface 116 (.pointer (some ⟨bp, 0, none⟩))] w fun e' w' => ∃ cb, e' = .returned (.iface 261 (.pointer (some ⟨cb, 0, none⟩))) ∧ Same w w' ∧ CodeAt w' (.pointer (some ⟨cb, 0, none⟩)) M m xs := by
  have HP : ∀ W, Same w W → Calls Tryz.prog 260 #[.pointer (some ⟨bp, 0, none⟩)] W fun e' W' => e' = .returned (.agg #[.int .i64 s, .int .i64 e]) ∧ Same w W' ∧ W'.cell? ⟨fb, 0, none⟩ = some (.string (fenceT M)) ∧ W'.cell? ⟨fb, 1, none⟩ = some (.string ⟨#[]⟩) ∧ W'.cell? ⟨fb, 3, none⟩ = some (.slice (some ⟨gt, 0, none⟩) m ct) := fun W hW =>
    (pos_any bp g n cap p l c i s e W (hp.same hW) hst hn (ownsRow_keep hown hW (fun _ _ x => x))).mono fun _ _ h => ⟨h.1, hW.trans h.2, (Same.blk (hW.trans h.2) hB).cell 0, (Same.blk (hW.trans h.2) hB).cell 1, (Same.blk (hW.trans h.2) hB).cell 3⟩
  have M1 := m_pos0
  have q0 : w.cell? ⟨fb, 0, none⟩ = some (.string (fenceT M)) := hB.cell 0
  have q1 : w.cell? ⟨fb, 1, none⟩ = some (.string ⟨#[]⟩) := hB.cell 1
  have q3 : w.cell? ⟨fb, 3, none⟩ = some (.slice (some ⟨gt, 0, none⟩) m ct) := hB.cell 3
  have HX := Lib.hid hx
  clear hx
  go_enter Tryz.func339, Tryz.ntmps339
  go_wp2_with fail
  have hS0 : Same w w := Mods.refl _ w
  first
    | go_region_with ((go_at_call 260; refine (HP _ (by repeat (first | assumption | apply Mods.drew | apply Mods.drewN | apply Mods.alloc))).mono ?_; rintro e1 w1 ⟨rfl, hS1, HL1, HL2, HL3⟩))
    | fail
  all_goals
    go_wp2
    go_ret
    exact ⟨_, rfl, hS1.alloc _, _, _, _, _, _, rfl, Blk.newAt _ _ rfl, (ownsRow_keep HX.out hS1 (fun _ _ x => x)).alloc _⟩
end Go.Proofs.YtdnlfdppjfjncaaGreatDoor

/- addLine: a line that begins a fence. -/
namespace Go.Proofs.YtdnlfdppjfjncaaGreatDoor
open Go Go.RowKit Go.Proofs

theorem blank_empty : (trimL ((⟨#[]⟩ : ByteArray).extract 0 (⟨#[]⟩ : ByteArray).size)).toList.isEmpty = true := by
  have h : (trimL ((⟨#[]⟩ : ByteArray).extract 0 (⟨#[]⟩ : ByteArray).size)).size = 0 := by unfold trimL; rw [ByteArray.size_extract, ByteArray.size_extract]; have e : (⟨#[]⟩ : ByteArray).size = 0 := rfl; omega
  rw [empty_size h]
  simp [ByteArray.toList_eq]

theorem EntAt.ne_ps {w : World} {bp : Nat} {p : PSt} (h : EntAt w) (hp : PsAt w bp p) : 1 ≠ bp := by
  obtain ⟨tail, htl⟩ := hp
  exact h.ne htl (Or.inr (Or.inl ⟨_, rfl⟩))

set_option maxRecDepth 100000 in
set_option maxHeartbeats 4000000 in
theorem addLine_fence (bp g cap : Nat) (p : PSt) (T : Nat) (v : Value) (l : List Value) (M : Nat) (nl : Int) (w : World) (h : NoPara w bp g 0 cap p T v) (hM : 3 ≤ M) (hM9 : M ≤ 80000) (hE : EntAt w)
    (hown : w.ownsRow 0 121 4 p.stack 1 l)
    (hN : ∀ W, NoPara W bp g 0 cap { p with depth := 0 } T v → ∀ f ∈ [95, 96, 97, 98, 99, 100], ∀ V, Same W V →
      Calls Tryz.prog f #[.pointer (some ⟨bp, 0, none⟩), LV 0 (fenceT M) nl] V fun e w' => e = .returned (.tuple #[LV 0 (fenceT M) nl, .bool false]) ∧ Same V w') :
    Calls Tryz.prog 64 #[.pointer (some ⟨bp, 0, none⟩), LV 0 (fenceT M) nl] w fun e w' => e = .returned (.tuple #[]) ∧ FenceNew w w' bp { p with depth := 0 } 1 l M := by
  have hsz := fenceT_size M
  have hs : (fenceT M).size ≤ 1000000 := by omega
  have hbl : blankAt (fenceT M) 0 = false := blankAt_id (by omega) (by rw [fenceT_get]; rfl)
  have k5 := h.at_.depth
  have f5 := h.at_.fr 5
  have hbpl := h.at_.lt
  go_enter Tryz.func64, Tryz.ntmps64
  go_wp2
  go_step3
  go_wp2
  generalize hW : (World.alloc _ _ : World) = W
  have hp0 : PsAt W bp { p with depth := 0 } := by subst hW; exact PsAt.alloc (h.at_.set 5 _ { p with depth := 0 } rfl (by decide)) _
  have hm0 : Mods (fun k => k = bp) w W := by subst hW; exact ((Mods.refl (fun k => k = bp) w).setCell (p := ⟨bp, 5, none⟩) (fun _ => rfl) _).alloc _
  have hbk : LineAt W w.heap.size 0 (fenceT M) nl := by subst hW; exact Blk.newAt _ _ (by simp)
  clear hW
  obtain ⟨tail, htl⟩ := id h.at_
  obtain ⟨_, _, he, ⟨cur, hcur⟩, _, _⟩ := ownsRow_form (h.stack ▸ hown) (by omega)
  cases he
  have hgbp : g ≠ bp := hcur.ne_of_type htl (by decide)
  have h0 : NoPara W bp g 0 cap { p with depth := 0 } T v := ⟨hp0, h.stack, h.small, (World.cell?_of_block (hm0.block g (World.block_lt_of_cell? _ _ h.top) hgbp)).trans h.top, h.other⟩
  have hown0 : W.ownsRow 0 121 4 p.stack 1 l := ownsRow_keep hown hm0 (by rw [h.stack]; intro k hk; cases hk; exact hgbp)
  have hTN := hN W h0
  have k4 : W.cell? ⟨bp, 4, none⟩ = some (.slice (some ⟨g, 0, none⟩) 1 cap) := by have := hp0.stack; rw [h.stack] at this; exact this
  have k5' := hp0.depth
  clear k5 f5 hbpl hcur htl
  go_loopg [] 0 (fun g wr => W = wr)
  case atStart => rfl
  case round =>
    subst hrel
    go_wp2_with fail
    go_quiet (fail)
    generalize hX : (W.drewN _ : World) = W1
    have hm1 : Same W W1 := by subst hX; exact (Mods.refl _ W).drewN _
    clear hX k4 k5'
    have hbk1 := Same.blk hm1 hbk
    go_wp2_with fail
    refine (isBlank_any _ _ _ _ _ hs (by omega) hbk1).mono ?_
    rintro e w2 ⟨rfl, n2, rfl⟩
    rw [show (trimL ((fenceT M).extract 0 (fenceT M).size)).toList.isEmpty = false from hbl]
    have hm2 : Same W (W1.drewN n2) := hm1.drewN _
    generalize W1.drewN n2 = W2 at *
    have hbk2 := Same.blk hm2 hbk
    clear hm1 hbk1 hbl
    go_wp2_with fail
    go_step3
    go_wp2_with fail
    refine (news_any _).mono ?_
    rintro e w3 ⟨nb, rfl, hm3, hnb⟩
    have hm4 := hm2.trans hm3
    have hbk3 := Same.blk hm3 hbk2
    clear hm2 hbk2
    go_wp2
    go_loopg [88] 8 (fun gg j wr => ∃ k : Nat, gg = 8 - k ∧ j = .int .i64 k ∧ k ≤ 6 ∧ Same w3 wr)
    case atStart => exact ⟨0, rfl, rfl, by omega, Mods.refl _ _⟩
    case round =>
      obtain ⟨k, hg, rfl, hk8, hr5⟩ := hrel
      have hm5 := hm4.trans hr5
      have hbk5 := Same.blk hr5 hbk3
      have hnb5 := Same.blk hr5 hnb
      obtain ⟨g0, g1, g2, g3, g4, gf0, gf1, gf2, gf3, gf4, gbl⟩ := LineAt.facts hbk5
      have hcases : k = 0 ∨ k = 1 ∨ k = 2 ∨ k = 3 ∨ k = 4 ∨ k = 5 ∨ k = 6 := by omega
      rcases hcases with rfl | rfl | rfl | rfl | rfl | rfl | rfl
      · have n0 : wr.cell? ⟨nb, 0, none⟩ = some (.func (.func 95) #[] #[]) := hnb5.cell 0
        go_wp2_with fail
        refine (hTN 95 (by simp) wr hm5).mono ?_
        rintro e w6 ⟨rfl, hm6⟩
        clear n0 g0 g1 g2 g3 g4 gf0 gf1 gf2 gf3 gf4 gbl
        go_wp2
        go_roundg 7
        case measure => omega
        case rel => exact ⟨1, rfl, rfl, by omega, (hr5.trans hm6).alloc _⟩
      · have n0 : wr.cell? ⟨nb, 1, none⟩ = some (.func (.func 96) #[] #[]) := hnb5.cell 1
        go_wp2_with fail
        refine (hTN 96 (by simp) wr hm5).mono ?_
        rintro e w6 ⟨rfl, hm6⟩
        clear n0 g0 g1 g2 g3 g4 gf0 gf1 gf2 gf3 gf4 gbl
        go_wp2
        go_roundg 6
        case measure => omega
        case rel => exact ⟨2, rfl, rfl, by omega, (hr5.trans hm6).alloc _⟩
      · have n0 : wr.cell? ⟨nb, 2, none⟩ = some (.func (.func 97) #[] #[]) := hnb5.cell 2
        go_wp2_with fail
        refine (hTN 97 (by simp) wr hm5).mono ?_
        rintro e w6 ⟨rfl, hm6⟩
        clear n0 g0 g1 g2 g3 g4 gf0 gf1 gf2 gf3 gf4 gbl
        go_wp2
        go_roundg 5
        case measure => omega
        case rel => exact ⟨3, rfl, rfl, by omega, (hr5.trans hm6).alloc _⟩
      · have n0 : wr.cell? ⟨nb, 3, none⟩ = some (.func (.func 98) #[] #[]) := hnb5.cell 3
        go_wp2_with fail
        refine (hTN 98 (by simp) wr hm5).mono ?_
        rintro e w6 ⟨rfl, hm6⟩
        clear n0 g0 g1 g2 g3 g4 gf0 gf1 gf2 gf3 gf4 gbl
        go_wp2
        go_roundg 4
        case measure => omega
        case rel => exact ⟨4, rfl, rfl, by omega, (hr5.trans hm6).alloc _⟩
      · have n0 : wr.cell? ⟨nb, 4, none⟩ = some (.func (.func 99) #[] #[]) := hnb5.cell 4
        go_wp2_with fail
        refine (hTN 99 (by simp) wr hm5).mono ?_
        rintro e w6 ⟨rfl, hm6⟩
        clear n0 g0 g1 g2 g3 g4 gf0 gf1 gf2 gf3 gf4 gbl
        go_wp2
        go_roundg 3
        case measure => omega
        case rel => exact ⟨5, rfl, rfl, by omega, (hr5.trans hm6).alloc _⟩
      · have n0 : wr.cell? ⟨nb, 5, none⟩ = some (.func (.func 100) #[] #[]) := hnb5.cell 5
        go_wp2_with fail
        refine (hTN 100 (by simp) wr hm5).mono ?_
        rintro e w6 ⟨rfl, hm6⟩
        clear n0 g0 g1 g2 g3 g4 gf0 gf1 gf2 gf3 gf4 gbl
        go_wp2
        go_roundg 2
        case measure => omega
        case rel => exact ⟨6, rfl, rfl, by omega, (hr5.trans hm6).alloc _⟩
      · have n0 : wr.cell? ⟨nb, 6, none⟩ = some (.func (.func 101) #[] #[]) := hnb5.cell 6
        have h5 := h0.same hm5
        have hown5 := ownsRow_keep hown0 hm5 (fun _ _ x => x)
        have hE5 : EntAt wr := (hE.of_mods hm0 (hE.ne_ps h.at_)).same hm5
        rw [h.stack] at hown5
        go_wp2_with fail
        refine (newFence_bar bp 1 cap (some ⟨g, 0, none⟩) { p with depth := 0 } l 0 M nl wr hM hM9 hE5 h5.at_ h.stack (by omega) rfl rfl hown5 (fun g' hg' => by cases hg'; exact hgbp)).mono ?_
        rintro e w6 ⟨rfl, hFN⟩
        have hbk6 : LineAt w6 w.heap.size 0 (fenceT M) nl := Blk.keep hbk5 hFN.mods (by
          intro hh
          rcases hh with hh | hh
          · obtain ⟨tail5, htl5⟩ := id h5.at_
            exact Blk.ne_of_type hbk5 htl5 (by decide) hh
          · have hh2 : p.stack.ownBlock = some w.heap.size := hh
            rw [h.stack] at hh2
            exact own_ne hown5 hbk5 (by decide) hh2)
        clear n0 g0 g1 g2 g3 g4 gf0 gf1 gf2 gf3 gf4 gbl
        obtain ⟨g0, g1, g2, g3, g4, gf0, gf1, gf2, gf3, gf4, gbl⟩ := LineAt.facts hbk6
        go_wp2_with fail
        generalize hX : (World.setCell (World.setCell (World.setCell (World.setCell (World.setCell w6 _ _) _ _) _ _) _ _) _ _ : World) = X
        have hPX : Mods (fun k => k = w.heap.size) w6 X ∧ LineAt X w.heap.size 0 ⟨#[]⟩ 0 := by subst hX; exact put5 hbk6 0 ⟨#[]⟩ 0
        clear hX
        generalize hY : (X.alloc _ : World) = Y
        have hPY : Mods (fun k => k = w.heap.size) w6 Y ∧ LineAt Y w.heap.size 0 ⟨#[]⟩ 0 := by subst hY; exact ⟨hPX.1.alloc _, Blk.alloc hPX.2 _⟩
        clear hY
        refine (isBlank_any w.heap.size 0 ⟨#[]⟩ 0 Y (by decide) (Nat.le_refl _) hPY.2).mono ?_
        rintro e w7 ⟨rfl, n7, rfl⟩
        rw [blank_empty]
        have hmX : Mods (fun k => k = w.heap.size) w6 (Y.drewN n7) := hPY.1.drewN n7
        have hk0 := hm0.size
        have hk5 := hm5.size
        go_wp2_with fail
        rw [Exit.noGoto_ret]
        refine bodyPost_ret (v := .tuple #[]) (by simp [results, Tryz.results64, go_sem]) rfl ⟨rfl, ?_, ?_⟩
        · exact (((hm0.mono (S' := fun k => k = bp ∨ p.stack.ownBlock = some k) (fun _ _ h => Or.inl h)).then hm5 (fun _ _ h => absurd h (fun x => x))).then hFN.mods (fun _ _ h => h)).then hmX (fun b hb h => by omega)
        · obtain ⟨g6, cap6, fb, x1, x2, x3, x4, x5⟩ := hFN.ex
          obtain ⟨tail6, htl6⟩ := id x1
          exact ⟨g6, cap6, fb, x1.keep hmX (fun h => htl6.ne_of_type hbk6 (by decide) h), x2.elim (fun y1 y2 => ownsRow_keep ⟨y1, y2⟩ hmX (fun k hk h => own_ne ⟨y1, y2⟩ hbk6 (by decide) (by rw [← h]; exact hk))), x3.keep1 hmX (x3.ne_of_type hbk6 (by decide)), by omega, fun hlt => x5 (by omega)⟩
end Go.Proofs.YtdnlfdppjfjncaaGreatDoor

/- addLine where a fence is open: the line is taken in. -/
namespace Go.Proofs.YtdnlfdppjfjncaaGreatDoor
open Go Go.RowKit Go.Proofs

/-- A fence is open below the document. -/
structure FenceL (w : World) (bp g cap : Nat) (p : PSt) (rv : Value) (fb : Nat) (tv : Value) (m M : Nat) (xs : List Value) (ea eb : Int) : Prop where
  at_ : PsAt w bp p
  stack : p.stack = .slice (some ⟨g, 0, none⟩) 2 cap
  row : w.ownsRow 0 121 4 (.slice (some ⟨g, 0, none⟩) 2 cap) 2 ([rv, .slice none 0 0, .int .i64 0, .int .i64 ea] ++ [.iface 251 (.pointer (some ⟨fb, 0, none⟩)), .slice none 0 0, .int .i64 1, .int .i64 eb])
  blk : Blk w fb #[.string (fenceT M), .string ⟨#[]⟩, .int .i64 0, tv] 253
  txt : w.ownsRow 0 9 1 tv m xs

theorem FenceL.keep {S : Nat → Prop} {w w' : World} {bp g cap : Nat} {p : PSt} {rv : Value} {fb : Nat} {tv : Value} {m M : Nat} {xs : List Value} {ea eb : Int} (h : FenceL w bp g cap p rv fb tv m M xs ea eb) (hm : Mods S w w') (h1 : ¬ S bp) (h2 : ¬ S g) (h3 : ¬ S fb) (h4 : ∀ b, tv.ownBlock = some b → ¬ S b) :
    FenceL w' bp g cap p rv fb tv m M xs ea eb :=
  ⟨h.at_.keep hm h1, h.stack, ownsRow_keep h.row hm (fun b hb => by cases hb; exact h2), h.blk.keep hm h3, ownsRow_keep h.txt hm h4⟩
theorem FenceL.same {w w' : World} {bp g cap : Nat} {p : PSt} {rv : Value} {fb : Nat} {tv : Value} {m M : Nat} {xs : List Value} {ea eb : Int} (h : FenceL w bp g cap p rv fb tv m M xs ea eb) (hm : Same w w') : FenceL w' bp g cap p rv fb tv m M xs ea eb :=
  h.keep hm (fun x => x) (fun x => x) (fun x => x) (fun _ _ x => x)

theorem FenceL.set {w : World} {bp g cap : Nat} {p : PSt} {rv : Value} {fb : Nat} {tv : Value} {m M : Nat} {xs : List Value} {ea eb : Int} (h : FenceL w bp g cap p rv fb tv m M xs ea eb) (i : Nat) (v : Value) (q : PSt) (hq : (psHead p).set i v = psHead q) (hi : i < 12) (hst : q.stack = p.stack) :
    FenceL (w.setCell ⟨bp, i, none⟩ v) bp g cap q rv fb tv m M xs ea eb ∧ Mods (fun k => k = bp) w (w.setCell ⟨bp, i, none⟩ v) := by
  have hm : Mods (fun k => k = bp) w (w.setCell ⟨bp, i, none⟩ v) := (Mods.refl (fun k => k = bp) w).setCell (p := ⟨bp, i, none⟩) (fun _ => rfl) _
  obtain ⟨tail, htl⟩ := id h.at_
  exact ⟨⟨h.at_.set i v q hq hi, hst.trans h.stack, ownsRow_keep h.row hm (fun b hb x => own_ne_ps h.row h.at_ (by decide) (by rw [← x]; exact hb)), h.blk.keep1 hm (h.blk.ne_of_type htl (by decide)), ownsRow_keep h.txt hm (fun b hb x => own_ne_ps h.txt h.at_ (by decide) (by rw [← x]; exact hb))⟩, hm⟩

theorem FenceL.top {w : World} {bp g cap : Nat} {p : PSt} {rv : Value} {fb : Nat} {tv : Value} {m M : Nat} {xs : List Value} {ea eb : Int} (h : FenceL w bp g cap p rv fb tv m M xs ea eb) :
    w.cell? ⟨g, 4, none⟩ = some (.iface 251 (.pointer (some ⟨fb, 0, none⟩))) ∧ w.cell? ⟨g, 7, none⟩ = some (.int .i64 eb) ∧ w.frozen? ⟨g, 7, none⟩ = false ∧ g < w.heap.size := by
  obtain ⟨c0, c1, c2, c3, cf, cl⟩ := row_cells (n := 1) (l := [rv, .slice none 0 0, .int .i64 0, .int .i64 ea]) h.row
  exact ⟨c0, c3, cf 7, cl⟩

/-- The last line of the fence is stored. -/
theorem FenceL.setE {w : World} {bp g cap : Nat} {p : PSt} {rv : Value} {fb : Nat} {tv : Value} {m M : Nat} {xs : List Value} {ea eb : Int} (h : FenceL w bp g cap p rv fb tv m M xs ea eb) (e : Int) :
    FenceL (w.setCell ⟨g, 7, none⟩ (.int .i64 e)) bp g cap p rv fb tv m M xs ea e ∧ Mods (fun k => k = g) w (w.setCell ⟨g, 7, none⟩ (.int .i64 e)) := by
  have hm : Mods (fun k => k = g) w (w.setCell ⟨g, 7, none⟩ (.int .i64 e)) := (Mods.refl (fun k => k = g) w).setCell (p := ⟨g, 7, none⟩) (fun _ => rfl) _
  obtain ⟨_, _, he, ⟨cur, hcur⟩, _, _⟩ := ownsRow_form h.row (by omega)
  cases he
  obtain ⟨tail, htl⟩ := id h.at_
  refine ⟨⟨h.at_.keep hm (fun x => hcur.ne_of_type htl (by decide) x.symm), h.stack, ?_, h.blk.keep1 hm (h.blk.ne_of_type hcur (by decide)), ownsRow_keep h.txt hm (fun b hb x => own_ne h.txt hcur (by decide) (by rw [← x]; exact hb))⟩, hm⟩
  have h1 := ownsRow_set h.row 7 (.int .i64 e) (by omega)
  exact h1

theorem Taken.of_same {x w w' : World} {bp fb m M : Nat} {p : PSt} {tv : Value} {xs : List Value} {text : ByteArray} (hS : Same x w) (h : Taken w w' bp fb m M p tv xs text) : Taken x w' bp fb m M p tv xs text := by
  obtain ⟨h1, c, g, ct, a1, a2, a3, a4⟩ := h
  have := hS.size
  exact ⟨(hS.mono (S' := fun k => k = bp ∨ k = fb ∨ tv.ownBlock = some k) (fun _ _ h => absurd h (fun x => x))).trans h1, c, g, ct, a1, a2, a3, a4.imp (fun h => h) (fun h => by omega)⟩

theorem m_extend_fence (k : Nat) (a : Addr) (w : World) : (method (k + 1) 251 (.pointer (some a)) "pub-paratext/pub/rscmarkdown.extend").run Tryz.prog w = .ok (340, .pointer (some a)) w := by kernel_rfl

/-- What taking the line in leaves of the open fence. -/
structure In2 (w w' : World) (bp g cap : Nat) (p : PSt) (rv : Value) (fb : Nat) (tv : Value) (m M : Nat) (xs : List Value) (text : ByteArray) (ea : Int) : Prop where
  mods : Mods (fun k => k = bp ∨ k = g ∨ k = fb ∨ tv.ownBlock = some k) w w'
  ex : ∃ c gt ct eb, FenceL w' bp g cap { p with corner := c } rv fb (.slice (some ⟨gt, 0, none⟩) (m + 1) ct) (m + 1) M (xs ++ [.string text]) ea eb ∧ (tv.ownBlock = some gt ∨ w.heap.size ≤ gt)

theorem In2.same {w w' w2 : World} {bp g cap : Nat} {p : PSt} {rv : Value} {fb : Nat} {tv : Value} {m M : Nat} {xs : List Value} {text : ByteArray} {ea : Int} (h : In2 w w' bp g cap p rv fb tv m M xs text ea) (hm : Same w' w2) : In2 w w2 bp g cap p rv fb tv m M xs text ea := by
  obtain ⟨h1, c, gt, ct, eb, h2, h3⟩ := h
  exact ⟨h1.then hm (fun _ _ h => absurd h (fun x => x)), c, gt, ct, eb, h2.same hm, h3⟩

theorem in2_b {w wD : World} {bp g cap : Nat} {p : PSt} {rv : Value} {fb : Nat} {tv : Value} {m M gt ct lb : Nat} {xs : List Value} {text : ByteArray} {ea eb : Int} {c : Bool} (hF : FenceL wD bp g cap { p with depth := 0, corner := c } rv fb (.slice (some ⟨gt, 0, none⟩) (m + 1) ct) (m + 1) M (xs ++ [.string text]) ea eb)
    (hM : Mods (fun k => k = bp ∨ k = g ∨ k = fb ∨ tv.ownBlock = some k) w wD) (hb : LineAt wD lb 0 ⟨#[]⟩ 0) (hl : tv.ownBlock = some gt ∨ w.heap.size ≤ gt) :
    In2 w (wD.setCell ⟨bp, 5, none⟩ (.int .i64 1)) bp g cap { p with depth := 1 } rv fb tv m M xs text ea ∧ LineAt (wD.setCell ⟨bp, 5, none⟩ (.int .i64 1)) lb 0 ⟨#[]⟩ 0 := by
  obtain ⟨h1, h2⟩ := hF.set 5 (.int .i64 1) { p with depth := 1, corner := c } rfl (by decide) rfl
  obtain ⟨tail, htl⟩ := id hF.at_
  exact ⟨⟨hM.then h2 (fun _ _ h => Or.inl h), c, gt, ct, eb, h1, hl⟩, Blk.keep1 hb h2 (fun h => htl.ne_of_type hb (by decide) h.symm)⟩

theorem in2_e {w wD : World} {bp g cap : Nat} {p : PSt} {rv : Value} {fb : Nat} {tv : Value} {m M gt ct lb : Nat} {xs : List Value} {text : ByteArray} {ea eb : Int} {c : Bool} (hF : FenceL wD bp g cap { p with depth := 0, corner := c } rv fb (.slice (some ⟨gt, 0, none⟩) (m + 1) ct) (m + 1) M (xs ++ [.string text]) ea eb)
    (hM : Mods (fun k => k = bp ∨ k = g ∨ k = fb ∨ tv.ownBlock = some k) w wD) (hb : LineAt wD lb 0 ⟨#[]⟩ 0) (hl : tv.ownBlock = some gt ∨ w.heap.size ≤ gt) {e : Int} :
    In2 w (((wD.setCell ⟨g, 7, none⟩ (.int .i64 e)).drew).setCell ⟨bp, 5, none⟩ (.int .i64 1)) bp g cap { p with depth := 1 } rv fb tv m M xs text ea ∧ LineAt (((wD.setCell ⟨g, 7, none⟩ (.int .i64 e)).drew).setCell ⟨bp, 5, none⟩ (.int .i64 1)) lb 0 ⟨#[]⟩ 0 := by
  obtain ⟨h1, h2⟩ := hF.setE e
  obtain ⟨_, _, he, ⟨cur, hcur⟩, _, _⟩ := ownsRow_form hF.row (by omega)
  cases he
  have hd : Same (wD.setCell ⟨g, 7, none⟩ (.int .i64 e)) (wD.setCell ⟨g, 7, none⟩ (.int .i64 e)).drew := (Mods.refl _ _).drew
  exact in2_b (h1.same hd) ((hM.then h2 (fun _ _ h => Or.inr (Or.inl h))).then hd (fun _ _ h => absurd h (fun x => x))) (Blk.drew (Blk.keep1 hb h2 (fun h => hcur.ne_of_type hb (by decide) h.symm))) hl

set_option maxRecDepth 100000 in
set_option maxHeartbeats 8000000 in
theorem addLine_in (bp g cap : Nat) (p : PSt) (rv : Value) (fb : Nat) (tv : Value) (m M : Nat) (xs : List Value) (ea eb : Int) (text : ByteArray) (nl : Int) (w : World) (h : FenceL w bp g cap p rv fb tv m M xs ea eb) (hT : Txt text) (hs9 : text.size ≤ 80000) (hM9 : M ≤ 80000) (hE : EntAt w) (hm : m ≤ 100000)
    (hin : runC text 126 (p3 text 0) < M) :
    Calls Tryz.prog 64 #[.pointer (some ⟨bp, 0, none⟩), LV 0 text nl] w fun e w' => e = .returned (.tuple #[]) ∧ In2 w w' bp g cap { p with depth := 1 } rv fb tv m M xs text ea := by
  have k5 := h.at_.depth
  have f5 := h.at_.fr 5
  have hbpl := h.at_.lt
  have hgl0 := h.top.2.2.2
  have hfbl := h.blk.lt
  have HOL : Hid (∀ b, tv.ownBlock = some b → b < w.heap.size) := Lib.hid (fun b hb => (h.txt.lt b hb).2)
  have hE1 := hE.ne_ps h.at_
  go_enter Tryz.func64, Tryz.ntmps64
  go_wp2
  go_step3
  go_wp2
  generalize hW : (World.alloc _ _ : World) = W
  have hd0 := h.set 5 (.int .i64 0) { p with depth := 0 } rfl (by decide) rfl
  have hmW : Mods (fun k => k = bp) w W := by subst hW; exact hd0.2.alloc _
  have h0 : FenceL W bp g cap { p with depth := 0 } rv fb tv m M xs ea eb := by subst hW; exact hd0.1.same ((Mods.refl _ _).alloc _)
  have hbk : LineAt W w.heap.size 0 text nl := by subst hW; exact Blk.newAt _ _ (by simp)
  clear hW hd0
  have hEW : EntAt W := hE.of_mods hmW hE1
  clear k5 f5
  have hx := m_extend_fence
  go_loopg [] 1 (fun k wr => (k = 1 ∧ wr = W) ∨ (k = 0 ∧ In2 w wr bp g cap { p with depth := 1 } rv fb tv m M xs text ea ∧ LineAt wr w.heap.size 0 ⟨#[]⟩ 0))
  case atStart => exact Or.inl ⟨rfl, rfl⟩
  case round =>
    rcases hrel with ⟨rfl, rfl⟩ | ⟨rfl, hI2, hb2⟩
    · have k4 := h0.at_.stack
      rw [h0.stack] at k4
      have k5 : wr.cell? ⟨bp, 5, none⟩ = some (.int .i64 0) := h0.at_.depth
      obtain ⟨kt, _, _, hgl⟩ := h0.top
      go_wp2_with fail
      go_quiet (fail)
      generalize hX : (wr.drewN _ : World) = W1
      have hm1 : Same wr W1 := by subst hX; exact (Mods.refl _ wr).drewN _
      clear hX k4 k5 kt
      have h1 := h0.same hm1
      have hbk1 := Same.blk hm1 hbk
      obtain ⟨g0, g1, g2, g3, g4, gf0, gf1, gf2, gf3, gf4, gbl⟩ := LineAt.facts hbk1
      go_wp2_with fail
      clear g0 g1 g2 g3 g4 gf0 gf1 gf2 gf3 gf4 gbl hgl
      generalize hX : (W1.alloc _ : World) = X
      have hm2 : Same W1 X := by subst hX; exact (Mods.refl _ W1).alloc _
      have hold : LineAt X W1.heap.size 0 text nl := by subst hX; exact Blk.newAt _ _ rfl
      clear hX
      have h2 := h1.same hm2
      have hbk2 := Same.blk hm2 hbk1
      have hkX : Same wr X := hm1.trans hm2
      have hEX := hEW.same hkX
      clear h1 hbk1
      have hS0 : Same X X := Mods.refl _ _
      have hzW := hmW.size
      have hz1 := hm1.size
      have HE : ∀ V, Same X V → Calls Tryz.prog 340 #[.pointer (some ⟨fb, 0, none⟩), .pointer (some ⟨bp, 0, none⟩), LV 0 text nl] V fun e V' => e = .returned (.tuple #[zeroLV, .bool true]) ∧ Taken X V' bp fb m M { p with depth := 0 } tv xs text ∧ LineAt V' w.heap.size 0 text nl ∧
          (V'.cell? ⟨w.heap.size, 0, none⟩ = some (.int .i64 0) ∧ V'.cell? ⟨w.heap.size, 1, none⟩ = some (.int .i64 0) ∧ V'.cell? ⟨w.heap.size, 2, none⟩ = some (.int .i64 0) ∧ V'.cell? ⟨w.heap.size, 3, none⟩ = some (.string text) ∧ V'.cell? ⟨w.heap.size, 4, none⟩ = some (.int .u8 nl) ∧
            V'.frozen? ⟨w.heap.size, 0, none⟩ = false ∧ V'.frozen? ⟨w.heap.size, 1, none⟩ = false ∧ V'.frozen? ⟨w.heap.size, 2, none⟩ = false ∧ V'.frozen? ⟨w.heap.size, 3, none⟩ = false ∧ V'.frozen? ⟨w.heap.size, 4, none⟩ = false ∧ w.heap.size < V'.heap.size) := fun V hV =>
        (fence_extend bp fb m M { p with depth := 0 } tv xs text nl V hT hs9 hM9 (hEX.same hV) (h2.at_.same hV) (hV.blk h2.blk) (ownsRow_keep h2.txt hV (fun _ _ x => x)) hm hin).mono fun e V' ⟨x1, x2⟩ => by
          have hl : LineAt V' w.heap.size 0 text nl := Blk.keep (Same.blk hV hbk2) x2.mods (by
            intro hh
            rcases hh with hh | hh | hh
            · omega
            · omega
            · have := HOL.out _ hh; omega)
          exact ⟨x1, Taken.of_same hV x2, hl, LineAt.facts hl⟩
      have k4 := h2.at_.stack
      rw [h2.stack] at k4
      have k5 : X.cell? ⟨bp, 5, none⟩ = some (.int .i64 0) := h2.at_.depth
      obtain ⟨kt, _, _, hgl⟩ := h2.top
      have hbpl2 := h2.at_.lt
      obtain ⟨g0, g1, g2, g3, g4, gf0, gf1, gf2, gf3, gf4, gbl⟩ := LineAt.facts hbk2
      go_upto_region 6 with (fail)
      go_cut [5] (fun s5 wx => s5 = .bool true ∧ (∃ V', Taken X V' bp fb m M { p with depth := 0 } tv xs text ∧ Mods (fun k => k = w.heap.size) V' wx) ∧ LineAt wx w.heap.size 0 ⟨#[]⟩ 0 ∧ LineAt wx W1.heap.size 0 text nl)
      case first =>
        first
          | go_region_with ((go_at_call 340; refine (HE _ (by repeat (first | assumption | apply Mods.drew))).mono ?_; rintro e' wC ⟨rfl, hTk, hbC, c0, c1, c2, c3, c4, cf0, cf1, cf2, cf3, cf4, cbl⟩))
          | fail
        all_goals
          have hP := put5 hbC 0 ⟨#[]⟩ 0
          have hoC : LineAt wC W1.heap.size 0 text nl := Blk.keep hold hTk.mods (by
            intro hh
            have hzb := hbk.lt
            rcases hh with hh | hh | hh
            · omega
            · omega
            · have := HOL.out _ hh; omega)
          have hzn : W1.heap.size ≠ w.heap.size := by have := hbk.lt; omega
          clear g0 g1 g2 g3 g4 gf0 gf1 gf2 gf3 gf4 gbl c0 c1 c2 c3 c4 cf0 cf1 cf2 cf3 cf4 cbl k4 k5 kt hx HE
          go_wp2_with fail
          go_meet
          case rel => exact ⟨rfl, ⟨_, hTk, hP.1⟩, hP.2, hoC.keep1 hP.1 hzn⟩
      case rest =>
        obtain ⟨rfl, ⟨V', hTk, hmv⟩, hbx, hox⟩ := hcut
        obtain ⟨hmT, c, gt, ct, hpT, hBT, hoT, hlT⟩ := hTk
        obtain ⟨_, _, heg, ⟨curg, hcurg⟩, _, _⟩ := ownsRow_form h2.row (by omega)
        cases heg
        obtain ⟨tail2, htl2⟩ := id h2.at_
        have hrowT := ownsRow_keep h2.row hmT (fun b hb x => by
          cases hb
          rcases x with x | x | x
          · exact hcurg.ne_of_type htl2 (by decide) x
          · exact hcurg.ne_of_type h2.blk (by decide) x
          · exact own_ne h2.txt hcurg (by decide) x)
        have hFT : FenceL V' bp g cap { p with depth := 0, corner := c } rv fb (.slice (some ⟨gt, 0, none⟩) (m + 1) ct) (m + 1) M (xs ++ [.string text]) ea eb := ⟨hpT, h2.stack, hrowT, hBT, hoT⟩
        have hFC : FenceL wc bp g cap { p with depth := 0, corner := c } rv fb (.slice (some ⟨gt, 0, none⟩) (m + 1) ct) (m + 1) M (xs ++ [.string text]) ea eb := hFT.keep hmv (by omega) (by omega) (by omega) (fun b hb x => by
          cases hb
          have hbV : LineAt V' w.heap.size 0 text nl := Blk.keep hbk2 hmT (by
            intro hh
            rcases hh with hh | hh | hh
            · omega
            · omega
            · have := HOL.out _ hh; omega)
          exact own_ne hoT hbV (by decide) (by rw [← x]; rfl))
        have hszX := hm2.size
        have hmC : Mods (fun k => k = bp ∨ k = g ∨ k = fb ∨ tv.ownBlock = some k) w wc :=
          (((hmW.mono (S' := fun k => k = bp ∨ k = g ∨ k = fb ∨ tv.ownBlock = some k) (fun _ _ h => Or.inl h)).then hkX (fun _ _ h => absurd h (fun x => x))).then hmT (fun _ _ h => h.elim Or.inl (fun h => Or.inr (Or.inr h)))).then hmv (fun b hb h => by omega)
        have hlT2 : tv.ownBlock = some gt ∨ w.heap.size ≤ gt := hlT.imp (fun h => h) (fun h => by omega)
        have hbkl := hbk.lt
        clear h0 hbk hEW hmW hm1 hold hm2 h2 hbk2 hkX HE k4 k5 kt hgl hbpl2 g0 g1 g2 g3 g4 gf0 gf1 gf2 gf3 gf4 gbl hS0 hEX hmT hmv hpT hBT hoT hlT hrowT hFT htl2 hcurg hx h
        go_wp2_with fail
        refine (isBlank_any _ _ _ _ _ (by omega) (Nat.zero_le _) hox).mono ?_
        rintro e w2 ⟨rfl, n2, rfl⟩
        obtain ⟨bl, BL⟩ : ∃ b, Hid ((trimL (text.extract 0 text.size)).toList.isEmpty = b) := ⟨_, Lib.hid rfl⟩
        rw [BL.out]
        have hmD : Same wc (wc.drewN n2) := (Mods.refl _ wc).drewN n2
        have hFD := hFC.same hmD
        have hbD := Same.blk hmD hbx
        have hmCD := hmC.then hmD (fun _ _ h => absurd h (fun x => x))
        generalize (wc.drewN n2 : World) = wD at *
        have k4 := hFD.at_.stack
        rw [hFD.stack] at k4
        have k5 : wD.cell? ⟨bp, 5, none⟩ = some (.int .i64 0) := hFD.at_.depth
        have k3 := hFD.at_.lineno
        have f5 := hFD.at_.fr 5
        obtain ⟨kt, kE, fE, hgl⟩ := hFD.top
        have hbpl2 := hFD.at_.lt
        have hgbp : g ≠ bp := fun h => own_ne_ps hFD.row hFD.at_ (by decide) (by rw [h]; rfl)
        have HFD := Lib.hid hFD
        have HMD := Lib.hid hmCD
        have HBD := Lib.hid hbD
        clear hFC hFD hbx hox hmC hmCD hbD hmD
        cases bl
        · have q8 : (1 : Int) < 2 := by omega
          go_wp2_with fail
          first
            | go_region
            | fail
          all_goals
            go_wp2_with fail
            go_roundg 0
            case measure => omega
            case rel => exact Or.inr ⟨rfl, in2_e HFD.out HMD.out HBD.out hlT2⟩
        · go_wp2_with fail
          go_roundg 0
          case measure => omega
          case rel => exact Or.inr ⟨rfl, in2_b HFD.out HMD.out HBD.out hlT2⟩
    · obtain ⟨hmI, c, gt, ct, eb2, hFI, hlI⟩ := id hI2
      have k4 := hFI.at_.stack
      rw [hFI.stack] at k4
      have k5 : wr.cell? ⟨bp, 5, none⟩ = some (.int .i64 1) := hFI.at_.depth
      have HI := Lib.hid hI2
      have HFI := Lib.hid hFI
      clear hI2 hmI hFI h0 hbk hEW hmW hx h
      go_wp2_with fail
      go_quiet (fail)
      generalize hX : (wr.drewN _ : World) = W1
      have hm1 : Same wr W1 := by subst hX; exact (Mods.refl _ wr).drewN _
      clear hX k4 k5
      have hb3 := Same.blk hm1 hb2
      go_wp2_with fail
      refine (isBlank_any w.heap.size 0 ⟨#[]⟩ 0 W1 (by decide) (Nat.le_refl _) hb3).mono ?_
      rintro e w2 ⟨rfl, n2, rfl⟩
      rw [blank_empty]
      have hm2 : Same wr (W1.drewN n2) := hm1.drewN n2
      generalize (W1.drewN n2 : World) = w2 at *
      have hF2 := HFI.out.same hm2
      have k5 : w2.cell? ⟨bp, 5, none⟩ = some (.int .i64 1) := hF2.at_.depth
      have hbpl2 := hF2.at_.lt
      go_wp2_with fail
      refine (trimStack_none bp 2 cap (some ⟨g, 0, none⟩) _ w2 hF2.at_ hF2.stack (by omega)).mono ?_
      rintro e w' ⟨rfl, rfl⟩
      clear k5
      go_wp2_with fail
      rw [Exit.noGoto_ret]
      exact bodyPost_ret (v := .tuple #[]) (by simp [results, Tryz.results64, go_sem]) rfl ⟨rfl, HI.out.same hm2⟩
end Go.Proofs.YtdnlfdppjfjncaaGreatDoor

/- closeBlock whatever builder is on top, over the contract of its build; the parent holds what was built. -/
namespace Go.Proofs.YtdnlfdppjfjncaaGreatDoor
open Go Go.RowKit Go.Proofs

/-- What building the top block leaves: the state (with the same stack), the stack's row, the parent's row, and X of what was built. -/
structure BuiltR (R : PSt → Prop) (w wA : World) (bp g n cap ni : Nat) (p : PSt) (l li : List Value) (inner : Value) (SA : Nat → Prop) (X : World → Value → Prop) (v : Value) (p' : PSt) : Prop where
  r : R p'
  mods : Mods SA w wA
  at_ : PsAt wA bp p'
  stack : p'.stack = p.stack
  row : wA.ownsRow 0 121 4 (.slice (some ⟨g, 0, none⟩) n cap) n l
  inn : wA.ownsRow 0 68 1 inner ni li
  x : X wA v

set_option maxRecDepth 100000 in
set_option maxHeartbeats 4000000 in
theorem close_genR (R : PSt → Prop) (bp g n cap ni : Nat) (p : PSt) (l li : List Value) (c inner i : Value) (T fb TB : Nat) (a : Option Addr) (sp ep sl el : Int) (SA : Nat → Prop) (X : World → Value → Prop) (w : World) (hp : PsAt w bp p) (hst : p.stack = .slice (some ⟨g, 0, none⟩) (n + 1 + 1) cap) (hn : n ≤ 100)
    (hown : w.ownsRow 0 121 4 (.slice (some ⟨g, 0, none⟩) (n + 1 + 1) cap) (n + 1 + 1) ((l ++ [c, inner, .int .i64 sp, .int .i64 ep]) ++ [.iface T (.pointer a), i, .int .i64 sl, .int .i64 el]))
    (_hin : w.ownsRow 0 68 1 inner ni li) (hni : ni ≤ 100000)
    (hM : ∀ (k : Nat) (w : World), (method (k + 1) T (.pointer a) "pub-paratext/pub/rscmarkdown.build").run Tryz.prog w = .ok (fb, .pointer a) w) (hTB : TB ≠ 111)
    (hF : ∀ (args : Array Value) (w : World), (callFunc fb args).run Tryz.prog w = .ok (.enter fb args) w)
    (hB : ∀ W, Same w W → Calls Tryz.prog fb #[.pointer a, .iface 116 (.pointer (some ⟨bp, 0, none⟩))] W fun e wA => ∃ bv p', e = .returned (.iface TB (.pointer bv)) ∧
      BuiltR R W wA bp g (n + 1 + 1) cap ni p ((l ++ [c, inner, .int .i64 sp, .int .i64 ep]) ++ [.iface T (.pointer a), i, .int .i64 sl, .int .i64 el]) li inner SA X (.pointer bv) p')
    (hX : ∀ W W' v, (∃ q, PsAt W bp q) → (∃ cur, Blk W g cur 121) → X W v → Mods (fun k => k = bp ∨ k = g ∨ inner.ownBlock = some k) W W' → X W' v) :
    Calls Tryz.prog 73 #[.pointer (some ⟨bp, 0, none⟩)] w fun e w' => ∃ bv p', e = .returned (.iface TB (.pointer bv)) ∧ p'.stack = p.stack ∧ R p' ∧ GenClosed w w' bp g n cap ni p' l li c inner sp ep SA X TB (.pointer bv) := by
  obtain ⟨c0, c1, c2, c3, cf, cl⟩ := row_cells hown
  have k4 := hp.stack
  rw [hst] at k4
  have hbl := hp.lt
  have w1 : IntKind.i64.wrap ((n : Int) + 1) = (n : Int) + 1 := IntWalk.i64_in _ (by omega)
  have w2 : (0 : Int) ≤ (n : Int) + 1 := by omega
  have w3 : (n : Int) + 1 < (n : Int) + 1 + 1 := by omega
  have w4 : ((n : Int) + 1).toNat = n + 1 := by omega
  have hE := eql_builder_nil
  have HX := Lib.hid hX
  clear cf hX
  go_enter Tryz.func73, Tryz.ntmps73
  go_wp2_with fail
  go_quiet (fail)
  go_wp2_with fail
  have hD : Same w (w.drewN nq) := (Mods.refl _ w).drewN nq
  generalize hW : (w.drewN nq : World) = W at *
  clear hW
  have hBW := hB W hD
  clear hB
  refine hBW.mono ?_
  rintro e wA ⟨bv, p', rfl, hPB⟩
  obtain ⟨hR, hmA, hpA, hstA, hownA, hinA, hxA⟩ := hPB
  clear c0 c1 c2 c3 k4 hbl
  have k4 := hpA.stack
  have f4 := hpA.fr 4
  have hbl := hpA.lt
  have hL2 := fun X v w => as_List_no TB X v w hTB
  have HST := Lib.hid hstA
  rw [hstA, hst] at k4
  have hcap : n + 1 + 1 ≤ cap := by
    rcases hownA.2 with ⟨h, _⟩ | ⟨_, _, _, h, _, _, hc, _⟩
    · cases h
    · cases h; exact hc
  have w5 : (n : Int) + 1 ≤ cap := by omega
  have w6 : IntKind.i64.wrap (n : Int) = n := IntWalk.i64_in _ (by omega)
  have w7 : (0 : Int) < (n : Int) + 1 := by omega
  have w8 : (n : Int) < (n : Int) + 1 := by omega
  have w9 : (0 : Int) ≤ (n : Int) := by omega
  clear hE hM hF hstA
  go_wp2_with fail
  go_region
  go_wp2_with fail
  generalize hX : ((wA.setCell ⟨bp, 4, none⟩ (.slice (some ⟨g, 0, none⟩) (n + 1) cap)).drew : World) = Y
  have hmX : Mods (fun k => k = bp) wA Y := by subst hX; exact ((Mods.refl (fun k => k = bp) wA).setCell (p := ⟨bp, 4, none⟩) (fun _ => rfl) _).drew
  have hpX : PsAt Y bp { p' with stack := .slice (some ⟨g, 0, none⟩) (n + 1) cap } := by
    subst hX
    exact PsAt.drew (hpA.set 4 _ _ rfl (by decide))
  clear hX
  have hownX := ownsRow_keep hownA hmX (fun k hk x => own_ne_ps hownA hpA (by decide) (by rw [← x]; exact hk))
  have hinX := ownsRow_keep hinA hmX (fun k hk x => own_ne_ps hinA hpA (by decide) (by rw [← x]; exact hk))
  have hownP := ownsRow_pop hownX rfl
  obtain ⟨d0, d1, d2, d3, df, dl⟩ := row_cells hownP
  clear k4 f4 hbl
  have k4 := hpX.stack
  have hbl := hpX.lt
  go_quiet (fail)
  go_wp2_with (at_builtin; refine ap_blk rfl (.tmp 106) (.tmp 108) rfl inner ni li rfl ((ownsRow_keep hinX ((Mods.refl (fun _ => False) Y).drewN nq) (fun _ _ x => x)).alloc _) Y.heap.size 1 _ (.pointer bv) rfl ((Blk.newAt _ _ rfl).cell 0) (by omega) ?_)
  intro ig ic wB hinB hgrow hloc
  generalize hZ : ((Y.drewN nq).alloc _ : World) = Z at *
  have hmZ : Same Y Z := by subst hZ; exact ((Mods.refl _ Y).drewN nq).alloc _
  have hZs : Z.heap.size = Y.heap.size + 1 := by subst hZ; simp
  clear hZ
  have hmB := grown_mods hgrow
  have hinZ := ownsRow_keep hinX hmZ (fun _ _ x => x)
  have hpB := (hpX.same hmZ).keep hmB (own_ne_ps hinZ (hpX.same hmZ) (by decide))
  have hownB := ownsRow_keep (ownsRow_keep hownP hmZ (fun _ _ x => x)) hmB (fun k hk => own_ne_row hinZ (ownsRow_keep hownP hmZ (fun _ _ x => x)) hk (by decide))
  obtain ⟨q0, q1, q2, q3, qf, ql⟩ := row_cells hownB
  have qf1 := qf (n * 4 + 1)
  clear qf df d0 d1 d2 d3
  go_wp2
  go_ret
  have hgbp : g ≠ bp := fun h => own_ne_ps hownB hpB (by decide) (by rw [h]; rfl)
  have hmF : Mods (fun k => k = g) wB (wB.setCell ⟨g, n * 4 + 1, none⟩ (.slice (some ⟨ig, 0, none⟩) (ni + 1) ic)) := (Mods.refl (fun k => k = g) wB).setCell (p := ⟨g, n * 4 + 1, none⟩) (fun _ => rfl) _
  have hlen : l.length = n * 4 := by have := hownB.1; simp at this; omega
  have hgrow4 : Mods (fun k => k = bp ∨ k = g ∨ inner.ownBlock = some k) wA (wB.setCell ⟨g, n * 4 + 1, none⟩ (.slice (some ⟨ig, 0, none⟩) (ni + 1) ic)) := by
    have m1 := hmX.mono (S' := fun k => k = bp ∨ k = g ∨ inner.ownBlock = some k) (fun _ _ h => Or.inl h)
    have m2 := m1.then hmZ (fun _ _ h => absurd h (fun x => x))
    have m3 := m2.then hmB (fun _ _ h => Or.inr (Or.inr h))
    exact m3.then hmF (fun _ _ h => Or.inr (Or.inl h))
  refine ⟨bv, p', rfl, HST.out, hR, ?_, ⟨ig, ic, hpB.set_other (a := ⟨g, n * 4 + 1, none⟩) hgbp _, row_in hlen rfl hownB, ?_, ?_⟩, ?_⟩
  · exact ((hD.mono (S' := fun k => SA k ∨ k = bp ∨ k = g ∨ inner.ownBlock = some k) (fun _ _ h => absurd h (fun x => x))).then hmA (fun _ _ h => Or.inl h)).then hgrow4 (fun _ _ h => Or.inr h)
  · exact ownsRow_keep hinB hmF (fun k hk he => own_ne_row hinB hownB (g := g) rfl (by decide) (by rw [← he]; exact hk))
  · rcases hloc with h | h
    · exact Or.inl h
    · right
      have h1 := hD.size
      have h2 := hmA.size
      have h3 := hmX.size
      have h4 := hmZ.size
      omega
  · obtain ⟨gx, _, he, ⟨cur, hcur⟩, _, _⟩ := ownsRow_form hownA (by omega)
    cases he
    exact HX.out wA _ _ ⟨p', hpA⟩ ⟨cur, hcur⟩ hxA hgrow4
end Go.Proofs.YtdnlfdppjfjncaaGreatDoor

/- addLine where a fence is open: the line that closes it. -/
namespace Go.Proofs.YtdnlfdppjfjncaaGreatDoor
open Go Go.RowKit Go.Proofs

theorem line_neq_diff (text : ByteArray) (nl : Int) (h : text.size ≠ 0) (w : World) : (binOp .neq 104 (LV 0 ⟨#[]⟩ 0) (LV 0 text nl)).run Tryz.prog w = .ok (.bool true) w := by
  have hs : Tryz.prog.stoodInHeld 104 = false := by kernel_rfl
  have key : ∀ fs, Tryz.prog.underlying 104 = some (.struct fs) → Tryz.prog.fieldsOf 104 = fs := fun fs h => by simp [Program.fieldsOf, h]
  have hf := key _ Tryz.underlying104
  have hd : text.toList ≠ [] := by
    intro e
    apply h
    rw [size_list, ← ByteArray.toList_eq, e]
    rfl
  rw [run_neq_struct, run_equalIn_struct w 9999 104 _ _ (by rw [hf]; exact Tryz.underlying104) hs, hf]
  simp [Op.eqFields, part, go_sem]
  intro e
  exact absurd e hd

/-- The document alone is open; it holds a block of code. -/
structure CodeL (w : World) (bp g cap : Nat) (p : PSt) (rv v : Value) (m M : Nat) (xs : List Value) (ea : Int) : Prop where
  ex : ∃ c ig ic, PsAt w bp { p with corner := c, stack := .slice (some ⟨g, 0, none⟩) 1 cap } ∧
    w.ownsRow 0 121 4 (.slice (some ⟨g, 0, none⟩) 1 cap) 1 [rv, .slice (some ⟨ig, 0, none⟩) 1 ic, .int .i64 0, .int .i64 ea] ∧
    w.ownsRow 0 68 1 (.slice (some ⟨ig, 0, none⟩) 1 ic) 1 [.iface 261 v]
  code : CodeAt w v M m xs

theorem CodeAt.keep {S : Nat → Prop} {w w' : World} {v : Value} {M m : Nat} {xs : List Value} (h : CodeAt w v M m xs) (hm : Mods S w w') (h1 : ∀ b cs, Blk w b cs 369 → ¬ S b) (h2 : ∀ b cs, Blk w b cs 9 → ¬ S b) : CodeAt w' v M m xs := by
  obtain ⟨cb, g, ct, x, y, rfl, hb, hr⟩ := h
  refine ⟨cb, g, ct, x, y, rfl, hb.keep hm (h1 _ _ hb), ownsRow_keep hr hm (fun b hbb => ?_)⟩
  cases hbb
  rcases hr.2 with ⟨h, _⟩ | ⟨_, _, cur, h, _, hg, _⟩
  · cases h
  · cases h
    exact h2 _ cur hg

/-- The fence is closed: the document holds its code. -/
theorem closeFence (bp g cap : Nat) (p : PSt) (rv : Value) (fb gt ct m M : Nat) (xs : List Value) (ea eb : Int) (w : World) (h : FenceL w bp g cap p rv fb (.slice (some ⟨gt, 0, none⟩) m ct) m M xs ea eb) :
    Calls Tryz.prog 73 #[.pointer (some ⟨bp, 0, none⟩)] w fun e w' => ∃ v, e = .returned (.iface 261 v) ∧ Mods (fun k => k = bp ∨ k = g) w w' ∧ CodeL w' bp g cap p rv v m M xs ea := by
  have hc := close_genR (fun q => q = p) bp g 0 cap 0 p [] [] rv (.slice none 0 0) (.slice none 0 0) 251 339 261 (some ⟨fb, 0, none⟩) 0 ea 1 eb (fun _ => False) (fun w v => CodeAt w v M m xs) w h.at_ h.stack (by omega) h.row
    ⟨rfl, Or.inl ⟨rfl, rfl⟩⟩ (by omega) (fun k w => m_build_fence k _ w) (by decide) f_build_fence ?_ ?_
  · refine hc.mono ?_
    rintro e w' ⟨bv, p', rfl, hst, rfl, hm, ⟨ig, ic, a1, a2, a3, _⟩, hx⟩
    refine ⟨_, rfl, hm.mono (fun k _ h => ?_), ⟨p'.corner, ig, ic, a1, a2, a3⟩, hx⟩
    rcases h with h | h | h | h
    · exact h.elim
    · exact Or.inl h
    · exact Or.inr h
    · cases h
  · intro W hW
    refine (fenceBuild_any bp fb g 1 cap M m gt ct p [rv, .slice none 0 0, .int .i64 0, .int .i64 ea] _ _ 1 eb xs W (h.at_.same hW) h.stack (by omega) (ownsRow_keep h.row hW (fun _ _ x => x)) (hW.blk h.blk) (ownsRow_keep h.txt hW (fun _ _ x => x))).mono ?_
    rintro e wA ⟨cb, rfl, hm, hC⟩
    exact ⟨_, p, rfl, rfl, hm, (h.at_.same hW).same hm, rfl, ownsRow_keep (ownsRow_keep h.row hW (fun _ _ x => x)) hm (fun _ _ x => x), ⟨rfl, Or.inl ⟨rfl, rfl⟩⟩, hC⟩
  · intro W W' v hq hg hX hm
    obtain ⟨q, hq⟩ := hq
    obtain ⟨tail, htl⟩ := hq
    obtain ⟨cur, hcur⟩ := hg
    refine hX.keep hm ?_ ?_
    · intro b cs hb hh
      rcases hh with hh | hh | hh
      · exact hb.ne_of_type htl (by decide) hh
      · exact hb.ne_of_type hcur (by decide) hh
      · cases hh
    · intro b cs hb hh
      rcases hh with hh | hh | hh
      · exact hb.ne_of_type htl (by decide) hh
      · exact hb.ne_of_type hcur (by decide) hh
      · cases hh

theorem closeFence1 (bp g cap : Nat) (p : PSt) (rv : Value) (fb gt ct m M : Nat) (xs : List Value) (ea eb : Int) (w : World) (h : FenceL w bp g cap p rv fb (.slice (some ⟨gt, 0, none⟩) m ct) m M xs ea eb) :
    Calls Tryz.prog 65 #[.pointer (some ⟨bp, 0, none⟩), .int .i64 1] w fun e w' => e = .returned (.tuple #[]) ∧ Mods (fun k => k = bp ∨ k = g) w w' ∧ ∃ v, CodeL w' bp g cap p rv v m M xs ea := by
  refine trimStack_gen bp 1 (fun j W => match j with
    | 1 => W = w
    | 0 => Mods (fun k => k = bp ∨ k = g) w W ∧ ∃ v, CodeL W bp g cap p rv v m M xs ea
    | _ => False) (by omega) ?_ ?_ 1 w rfl
  · intro j W hP
    match j, hP with
    | 1, hP => subst hP; exact ⟨by omega, _, _, by have := h.at_.stack; rw [h.stack] at this; exact this⟩
    | 0, ⟨_, v, hC⟩ =>
      obtain ⟨c, ig, ic, a1, _, _⟩ := hC.ex
      exact ⟨by omega, _, _, a1.stack⟩
  · intro j W hP
    match j, hP with
    | 0, hP =>
      subst hP
      exact (closeFence bp g cap p rv fb gt ct m M xs ea eb W h).mono fun e w' ⟨v, h1, h2, h3⟩ => ⟨_, h1, h2, v, h3⟩

set_option maxRecDepth 100000 in
set_option maxHeartbeats 8000000 in
theorem addLine_close (bp g cap : Nat) (p : PSt) (rv : Value) (fb gt ct m M : Nat) (xs : List Value) (ea eb : Int) (nl : Int) (w : World) (h : FenceL w bp g cap p rv fb (.slice (some ⟨gt, 0, none⟩) m ct) m M xs ea eb) (hM : 3 ≤ M) (hM9 : M ≤ 80000) (hE : EntAt w) (_hm : m ≤ 100000) :
    Calls Tryz.prog 64 #[.pointer (some ⟨bp, 0, none⟩), LV 0 (fenceT M) nl] w fun e w' => e = .returned (.tuple #[]) ∧ Mods (fun k => k = bp ∨ k = g) w w' ∧ ∃ v, CodeL w' bp g cap { p with depth := 0 } rv v m M xs ea := by
  have hsz := fenceT_size M
  have hs9 : (fenceT M).size ≤ 80000 := by omega
  have hbl : (trimL ((fenceT M).extract 0 (fenceT M).size)).toList.isEmpty = false := blankAt_id (by omega) (by rw [fenceT_get]; rfl)
  have k5 := h.at_.depth
  have f5 := h.at_.fr 5
  have hbpl := h.at_.lt
  have hgl0 := h.top.2.2.2
  have hfbl := h.blk.lt
  have hgt := (h.txt.lt gt rfl).2
  have hE1 := hE.ne_ps h.at_
  go_enter Tryz.func64, Tryz.ntmps64
  go_wp2
  go_step3
  go_wp2
  generalize hW : (World.alloc _ _ : World) = W
  have hd0 := h.set 5 (.int .i64 0) { p with depth := 0 } rfl (by decide) rfl
  have hmW : Mods (fun k => k = bp) w W := by subst hW; exact hd0.2.alloc _
  have h0 : FenceL W bp g cap { p with depth := 0 } rv fb (.slice (some ⟨gt, 0, none⟩) m ct) m M xs ea eb := by subst hW; exact hd0.1.same ((Mods.refl _ _).alloc _)
  have hbk : LineAt W w.heap.size 0 (fenceT M) nl := by subst hW; exact Blk.newAt _ _ (by simp)
  clear hW hd0
  have hEW : EntAt W := hE.of_mods hmW hE1
  clear k5 f5
  have hx := m_extend_fence
  have hq := line_neq_diff (fenceT M) nl (by omega)
  go_loopg [] 0 (fun k wr => wr = W)
  case atStart => rfl
  case round =>
    subst hrel
    · have k4 := h0.at_.stack
      rw [h0.stack] at k4
      have k5 : wr.cell? ⟨bp, 5, none⟩ = some (.int .i64 0) := h0.at_.depth
      obtain ⟨kt, _, _, hgl⟩ := h0.top
      go_wp2_with fail
      go_quiet (fail)
      generalize hX : (wr.drewN _ : World) = W1
      have hm1 : Same wr W1 := by subst hX; exact (Mods.refl _ wr).drewN _
      clear hX k4 k5 kt
      have h1 := h0.same hm1
      have hbk1 := Same.blk hm1 hbk
      obtain ⟨g0, g1, g2, g3, g4, gf0, gf1, gf2, gf3, gf4, gbl⟩ := LineAt.facts hbk1
      go_wp2_with fail
      clear g0 g1 g2 g3 g4 gf0 gf1 gf2 gf3 gf4 gbl hgl
      generalize hX : (W1.alloc _ : World) = X
      have hm2 : Same W1 X := by subst hX; exact (Mods.refl _ W1).alloc _
      have hold : LineAt X W1.heap.size 0 (fenceT M) nl := by subst hX; exact Blk.newAt _ _ rfl
      clear hX
      have h2 := h1.same hm2
      have hbk2 := Same.blk hm2 hbk1
      have hkX : Same wr X := hm1.trans hm2
      have hEX := hEW.same hkX
      clear h1 hbk1
      have hS0 : Same X X := Mods.refl _ _
      have hzW := hmW.size
      have hz1 := hm1.size
      have HE : ∀ V, Same X V → Calls Tryz.prog 340 #[.pointer (some ⟨fb, 0, none⟩), .pointer (some ⟨bp, 0, none⟩), LV 0 (fenceT M) nl] V fun e V' => e = .returned (.tuple #[zeroLV, .bool false]) ∧ Same X V' ∧ LineAt V' w.heap.size 0 (fenceT M) nl ∧
          (V'.cell? ⟨w.heap.size, 0, none⟩ = some (.int .i64 0) ∧ V'.cell? ⟨w.heap.size, 1, none⟩ = some (.int .i64 0) ∧ V'.cell? ⟨w.heap.size, 2, none⟩ = some (.int .i64 0) ∧ V'.cell? ⟨w.heap.size, 3, none⟩ = some (.string (fenceT M)) ∧ V'.cell? ⟨w.heap.size, 4, none⟩ = some (.int .u8 nl) ∧
            V'.frozen? ⟨w.heap.size, 0, none⟩ = false ∧ V'.frozen? ⟨w.heap.size, 1, none⟩ = false ∧ V'.frozen? ⟨w.heap.size, 2, none⟩ = false ∧ V'.frozen? ⟨w.heap.size, 3, none⟩ = false ∧ V'.frozen? ⟨w.heap.size, 4, none⟩ = false ∧ w.heap.size < V'.heap.size) := fun V hV =>
        (fence_closes bp fb M _ nl V hM hM9 (hEX.same hV) (hV.blk h2.blk)).mono fun e V' ⟨x1, x2⟩ => by
          have hl : LineAt V' w.heap.size 0 (fenceT M) nl := Same.blk (hV.trans x2) hbk2
          exact ⟨x1, hV.trans x2, hl, LineAt.facts hl⟩
      have k4 := h2.at_.stack
      rw [h2.stack] at k4
      have k5 : X.cell? ⟨bp, 5, none⟩ = some (.int .i64 0) := h2.at_.depth
      obtain ⟨kt, _, _, hgl⟩ := h2.top
      have hbpl2 := h2.at_.lt
      obtain ⟨g0, g1, g2, g3, g4, gf0, gf1, gf2, gf3, gf4, gbl⟩ := LineAt.facts hbk2
      go_upto_region 6 with (fail)
      go_cut [5] (fun s5 wx => s5 = .bool false ∧ Mods (fun k => k = w.heap.size) wr wx ∧ LineAt wx w.heap.size 0 ⟨#[]⟩ 0 ∧ LineAt wx W1.heap.size 0 (fenceT M) nl)
      case first =>
        first
          | go_region_with ((go_at_call 340; refine (HE _ (by repeat (first | assumption | apply Mods.drew))).mono ?_; rintro e' wC ⟨rfl, hTk, hbC, c0, c1, c2, c3, c4, cf0, cf1, cf2, cf3, cf4, cbl⟩))
          | fail
        all_goals
          have hP := put5 hbC 0 ⟨#[]⟩ 0
          have hoC : LineAt wC W1.heap.size 0 (fenceT M) nl := Same.blk hTk hold
          have hzn : W1.heap.size ≠ w.heap.size := by have := hbk.lt; omega
          clear g0 g1 g2 g3 g4 gf0 gf1 gf2 gf3 gf4 gbl c0 c1 c2 c3 c4 cf0 cf1 cf2 cf3 cf4 cbl k4 k5 kt hx hq HE
          go_wp2_with fail
          go_meet
          case rel => exact ⟨rfl, ((hkX.trans hTk).mono (fun _ _ h => absurd h (fun x => x))).trans hP.1, hP.2, hoC.keep1 hP.1 hzn⟩
      case rest =>
        obtain ⟨rfl, hmv, hbx, hox⟩ := hcut
        have hFC : FenceL wc bp g cap { p with depth := 0 } rv fb (.slice (some ⟨gt, 0, none⟩) m ct) m M xs ea eb := h0.keep hmv (by omega) (by omega) (by omega) (fun b hb => by have : gt = b := Option.some.inj hb; omega)
        have hmC : Mods (fun k => k = bp ∨ k = g) w wc := (hmW.mono (S' := fun k => k = bp ∨ k = g) (fun _ _ h => Or.inl h)).then hmv (fun b hb h => by omega)
        clear h0 hbk hEW hmW hm1 hold hm2 h2 hbk2 hkX HE k4 k5 kt hgl hbpl2 g0 g1 g2 g3 g4 gf0 gf1 gf2 gf3 gf4 gbl hS0 hEX hmv hx h
        go_wp2_with fail
        refine (isBlank_any _ _ _ _ _ (by omega) (Nat.zero_le _) hox).mono ?_
        rintro e w2 ⟨rfl, n2, rfl⟩
        rw [hbl]
        have hmD : Same wc (wc.drewN n2) := (Mods.refl _ wc).drewN n2
        have hFD := hFC.same hmD
        have hbD := Same.blk hmD hbx
        have hoD := Same.blk hmD hox
        have hmCD := hmC.then hmD (fun _ _ h => absurd h (fun x => x))
        generalize (wc.drewN n2 : World) = wD at *
        have k4 := hFD.at_.stack
        rw [hFD.stack] at k4
        have k5 : wD.cell? ⟨bp, 5, none⟩ = some (.int .i64 0) := hFD.at_.depth
        have k3 := hFD.at_.lineno
        obtain ⟨kt, kE, fE, hgl⟩ := hFD.top
        have hbpl2 := hFD.at_.lt
        have hgbp : g ≠ bp := fun h => own_ne_ps hFD.row hFD.at_ (by decide) (by rw [h]; rfl)
        obtain ⟨g0, g1, g2, g3, g4, gf0, gf1, gf2, gf3, gf4, gbl⟩ := LineAt.facts hbD
        obtain ⟨o0, o1, o2, o3, o4, of0, of1, of2, of3, of4, obl⟩ := LineAt.facts hoD
        have HFD := Lib.hid hFD
        have HMD := Lib.hid hmCD
        have HBD := Lib.hid hbD
        clear hFC hFD hbx hox hmC hmCD hbD hoD hmD
        have q8 : (1 : Int) < 2 := by omega
        have hd : ¬ ((fenceT M).toList = []) := by
          intro e
          have : (fenceT M).size = 0 := by rw [size_list, ← ByteArray.toList_eq, e]; rfl
          omega
        clear hq
        go_wp2_with fail
        clear g0 g1 g2 g3 g4 gf0 gf1 gf2 gf3 gf4 gbl o0 o1 o2 o3 o4 of0 of1 of2 of3 of4 obl hbl hd
        go_region
        all_goals
          generalize hX : ((wD.setCell _ _).drew : World) = wE
          have hE2 := HFD.out.setE p.lineno
          have hFE : FenceL wE bp g cap { p with depth := 0 } rv fb (.slice (some ⟨gt, 0, none⟩) m ct) m M xs ea p.lineno := by subst hX; exact hE2.1.same ((Mods.refl _ _).drew)
          have hmE : Mods (fun k => k = bp ∨ k = g) w wE := by subst hX; exact (HMD.out.then hE2.2 (fun _ _ h => Or.inr h)).drew
          have hbE : LineAt wE w.heap.size 0 ⟨#[]⟩ 0 := by subst hX; exact Blk.drew (Blk.keep1 HBD.out hE2.2 (by omega))
          clear hX hE2 k3 k4 k5 kt kE fE hgl hbpl2
          go_wp2_with fail
          refine (isBlank_any w.heap.size 0 ⟨#[]⟩ 0 wE (by decide) (Nat.le_refl _) hbE).mono ?_
          rintro e w2 ⟨rfl, n3, rfl⟩
          rw [blank_empty]
          have hm2 : Same wE (wE.drewN n3) := (Mods.refl _ wE).drewN n3
          have hF2 := hFE.same hm2
          have hmF := hmE.then hm2 (fun _ _ h => absurd h (fun x => x))
          generalize (wE.drewN n3 : World) = w2 at *
          have k5 : w2.cell? ⟨bp, 5, none⟩ = some (.int .i64 0) := hF2.at_.depth
          have hbpl2 := hF2.at_.lt
          go_wp2_with fail
          refine (closeFence1 bp g cap _ rv fb gt ct m M xs ea _ w2 hF2).mono ?_
          rintro e w' ⟨rfl, hmZ, v, hCL⟩
          clear k5
          go_wp2_with fail
          rw [Exit.noGoto_ret]
          exact bodyPost_ret (v := .tuple #[]) (by simp [results, Tryz.results64, go_sem]) rfl ⟨rfl, hmF.trans hmZ, v, hCL⟩
end Go.Proofs.YtdnlfdppjfjncaaGreatDoor

/- (*Parser).parse of a fence, its lines, and perhaps the fence again. -/
namespace Go.Proofs.YtdnlfdppjfjncaaGreatDoor
open Go Go.RowKit Go.Proofs

theorem bar_at0 {M : Nat} (hM : 0 < M) : at0 (fenceT M) (p3 (fenceT M) 0) = 126 := by
  rw [fenceT_p3, at0_eq (by rw [fenceT_size]; exact hM), fenceT_get]

theorem tries_bar (bp g cap : Nat) (p : PSt) (T : Nat) (v : Value) (M : Nat) (nl : Int) (w : World) (hM : 3 ≤ M) (hM9 : M ≤ 80000) (h : NoPara w bp g 0 cap p T v) (hd : p.depth = (0 : Nat)) (hT4 : T ≠ 242) :
    ∀ f ∈ [95, 96, 97, 98, 99, 100], ∀ V, Same w V →
      Calls Tryz.prog f #[.pointer (some ⟨bp, 0, none⟩), LV 0 (fenceT M) nl] V fun e w' => e = .returned (.tuple #[LV 0 (fenceT M) nl, .bool false]) ∧ Same V w' := by
  intro f hf V hV
  have hsz := fenceT_size M
  have hT : Txt (fenceT M) := ⟨by omega, fun j h => by rw [fenceT_get M j h]; decide⟩
  have h1 := h.same hV
  have ha := bar_at0 (M := M) (by omega)
  have hne : ∀ k : Int, k ≠ 126 → ((at0 (fenceT M) (p3 (fenceT M) 0)).toNat : Int) ≠ k := by
    intro k hk e
    rw [ha] at e
    exact hk (by rw [← e]; rfl)
  have hit : ItemNo (fenceT M) 0 := Or.inl (fun k hk => hne k (by
    simp only [List.mem_cons, List.not_mem_nil, or_false] at hk
    omega))
  simp only [List.mem_cons, List.not_mem_nil, or_false] at hf
  rcases hf with rfl | rfl | rfl | rfl | rfl | rfl
  · exact newQuote_no _ (fenceT M) 0 nl V (Nat.zero_le _) hT (hne _ (by decide))
  · exact newATX_no _ (fenceT M) 0 nl V (Nat.zero_le _) hT (hne _ (by decide))
  · exact newSetext_first bp g 0 cap p T v (fenceT M) 0 nl V h1 hd
  · exact newHR_no _ (fenceT M) 0 nl V (Nat.zero_le _) hT (hne _ (by decide)) (hne _ (by decide)) (hne _ (by decide))
  · exact newListItem_no bp g 1 cap none p T 0 v (fenceT M) 0 nl V h1.at_ h1.stack hd (by omega) h1.small h1.top hT4 (Nat.zero_le _) hT hit
  · exact newHTML_no _ (fenceT M) 0 nl V (Nat.zero_le _) hT (hne _ (by decide))

/-- The lines that stand in the fence. -/
structure Inside (ls : List ByteArray) (M : Nat) : Prop where
  ne : 0 < ls.length
  count : ls.length ≤ 50000
  big : 3 ≤ M
  most : M ≤ 80000
  size : ∀ l ∈ ls, l.size ≤ 80000
  tab : ∀ l ∈ ls, ∀ j (h : j < l.size), l[j] ≠ 9
  run : ∀ l ∈ ls, runC l 126 (p3 l 0) < M

def fenceLs (ls : List ByteArray) (M : Nat) (fin : Bool) : List ByteArray := fenceT M :: (ls ++ if fin then [fenceT M] else [])

/-- The state while the lines are read. -/
def pF (pp g cap k j : Nat) (d : Int) (c : Bool) : PSt := { p0 pp with lineno := (j : Nat), depth := d, corner := c, stack := .slice (some ⟨g, 0, none⟩) k cap }

structure RdF (w W : World) (pp : Nat) (ls : List ByteArray) (M j : Nat) : Prop where
  same : Same w W
  ex : ∃ g cap v c d ea, w.heap.size ≤ g ∧
    ((j = 0 ∧ d = -1 ∧ c = false ∧ PsAt W w.heap.size (pF pp g cap 1 0 d c) ∧ W.ownsRow 0 121 4 (.slice (some ⟨g, 0, none⟩) 1 cap) 1 [rootV' v, .slice none 0 0, .int .i64 0, .int .i64 0]) ∨
     (0 < j ∧ j ≤ ls.length + 1 ∧ ∃ fb tv eb, w.heap.size ≤ fb ∧ (∀ b, tv.ownBlock = some b → w.heap.size ≤ b) ∧ (1 < j → ∃ gt ct, tv = .slice (some ⟨gt, 0, none⟩) (j - 1) ct) ∧ FenceL W w.heap.size g cap (pF pp g cap 2 j d c) (rootV' v) fb tv (j - 1) M ((ls.take (j - 1)).map .string) ea eb) ∨
     (j = ls.length + 2 ∧ ∃ u, CodeL W w.heap.size g cap (pF pp g cap 2 j d c) (rootV' v) u ls.length M (ls.map .string) ea))

theorem RdF.line {w W : World} {pp : Nat} {ls : List ByteArray} {M j : Nat} (h : RdF w W pp ls M j) : W.cell? ⟨w.heap.size, 3, none⟩ = some (.int .i64 (j : Nat)) ∧ W.frozen? ⟨w.heap.size, 3, none⟩ = false ∧ w.heap.size < W.heap.size := by
  obtain ⟨g, cap, v, c, d, ea, _, ⟨hj, _, _, hp, _⟩ | ⟨_, _, fb, tv, eb, _, _, _, hF⟩ | ⟨hj, u, hC⟩⟩ := h.ex
  · subst hj; exact ⟨hp.lineno, hp.fr 3, hp.lt⟩
  · exact ⟨hF.at_.lineno, hF.at_.fr 3, hF.at_.lt⟩
  · obtain ⟨c2, ig, ic, hp, _, _⟩ := hC.ex
    exact ⟨hp.lineno, hp.fr 3, hp.lt⟩

theorem CodeL.same {w w' : World} {bp g cap : Nat} {p : PSt} {rv v : Value} {m M : Nat} {xs : List Value} {ea : Int} (h : CodeL w bp g cap p rv v m M xs ea) (hm : Same w w') : CodeL w' bp g cap p rv v m M xs ea := by
  obtain ⟨⟨c, ig, ic, a1, a2, a3⟩, hC⟩ := h
  exact ⟨⟨c, ig, ic, a1.same hm, ownsRow_keep a2 hm (fun _ _ x => x), ownsRow_keep a3 hm (fun _ _ x => x)⟩, hC.keep hm (fun _ _ _ x => x) (fun _ _ _ x => x)⟩

theorem RdF.keep {w W W' : World} {pp : Nat} {ls : List ByteArray} {M j : Nat} (h : RdF w W pp ls M j) (hm : Same W W') : RdF w W' pp ls M j := by
  obtain ⟨h1, g, cap, v, c, d, ea, hg, ⟨hj, hd, hc, hp, hr⟩ | ⟨hj, hj2, fb, tv, eb, a1, a2, a3, hF⟩ | ⟨hj, u, hC⟩⟩ := h
  · exact ⟨h1.trans hm, g, cap, v, c, d, ea, hg, Or.inl ⟨hj, hd, hc, hp.same hm, ownsRow_keep hr hm (fun _ _ x => x)⟩⟩
  · exact ⟨h1.trans hm, g, cap, v, c, d, ea, hg, Or.inr (Or.inl ⟨hj, hj2, fb, tv, eb, a1, a2, a3, hF.same hm⟩)⟩
  · exact ⟨h1.trans hm, g, cap, v, c, d, ea, hg, Or.inr (Or.inr ⟨hj, u, hC.same hm⟩)⟩

theorem rdF_step (w W : World) (pp : Nat) (ls : List ByteArray) (M j : Nat) (fin : Bool) (l : ByteArray) (nl : Int) (hI : Inside ls M) (hE : EntAt w) (hj : (fenceLs ls M fin)[j]? = some l) (h : RdF w W pp ls M j) :
    Calls Tryz.prog 64 #[.pointer (some ⟨w.heap.size, 0, none⟩), LV 0 l nl] (W.setCell ⟨w.heap.size, 3, none⟩ (.int .i64 ((j : Int) + 1))) fun e w2 => e = .returned (.tuple #[]) ∧ RdF w w2 pp ls M (j + 1) := by
  have hEW := hE.same h.same
  obtain ⟨hsame, g, cap, v, c, d, ea, hg, hst⟩ := h
  have hws := hsame.size
  have hcast : ((j : Int) + 1) = ((j + 1 : Nat) : Int) := by omega
  rw [hcast]
  rcases hst with ⟨hj0, hd, hc, hp, hown⟩ | ⟨hj0, hj2, fb, tv, eb, hfb, htv, hts, hF⟩ | ⟨hj0, u, hC⟩
  · subst hj0 hd hc
    have hl : l = fenceT M := by
      have : (fenceLs ls M fin)[0]? = some (fenceT M) := rfl
      exact (Option.some.inj (hj.symm.trans this))
    subst hl
    have hm : Mods (fun k => k = w.heap.size) W (W.setCell ⟨w.heap.size, 3, none⟩ (.int .i64 ((0 + 1 : Nat) : Int))) := (Mods.refl (fun k => k = w.heap.size) W).setCell (p := ⟨w.heap.size, 3, none⟩) (fun _ => rfl) _
    have hpY : PsAt (W.setCell ⟨w.heap.size, 3, none⟩ (.int .i64 ((0 + 1 : Nat) : Int))) w.heap.size (pF pp g cap 1 1 (-1) false) := hp.set 3 _ _ rfl (by decide)
    have hownY := ownsRow_keep hown hm (fun k hk x => own_ne_ps hown hp (by decide) (by rw [← x]; exact hk))
    have hEY := hEW.of_mods hm (hEW.ne_ps hp)
    generalize (W.setCell ⟨w.heap.size, 3, none⟩ (.int .i64 ((0 + 1 : Nat) : Int)) : World) = Y at *
    have hNP : NoPara Y w.heap.size g 0 cap (pF pp g cap 1 1 (-1) false) 98 (.pointer v) := ⟨hpY, rfl, by omega, (row_cells (n := 0) (l := []) hownY).1, by decide⟩
    refine (addLine_fence w.heap.size g cap _ _ _ _ M nl Y hNP hI.big hI.most hEY hownY (fun V hV f hf V2 hV2 => tries_bar w.heap.size g cap _ _ _ M nl V hI.big hI.most hV rfl (by decide) f hf V2 hV2)).mono ?_
    rintro e w2 ⟨rfl, hmF, g2, cap2, fb, x1, x2, x3, x4, x5⟩
    have hYs := hm.size
    have hg2 : w.heap.size ≤ g2 := by
      by_cases hlt : g2 < Y.heap.size
      · have hh : g = g2 := Option.some.inj (x5 hlt)
        omega
      · omega
    refine ⟨rfl, ?_, g2, cap2, v, false, 0, 0, hg2, Or.inr (Or.inl ⟨by omega, by omega, fb, .slice none 0 0, 1, by omega, (fun b hb => by cases hb), (fun h => absurd h (by omega)), ?_⟩)⟩
    · exact (hsame.then hm (fun b hb x => by omega)).then hmF (fun b hb x => by
        rcases x with x | x
        · omega
        · have hh : g = b := Option.some.inj x
          omega)
    · exact ⟨x1, rfl, x2, x3, ⟨rfl, Or.inl ⟨rfl, rfl⟩⟩⟩
  · obtain ⟨hFY, hm⟩ := hF.set 3 (.int .i64 ((j + 1 : Nat) : Int)) (pF pp g cap 2 (j + 1) d c) rfl (by decide) rfl
    have hEY := hEW.of_mods hm (hEW.ne_ps hF.at_)
    generalize (W.setCell ⟨w.heap.size, 3, none⟩ (.int .i64 ((j + 1 : Nat) : Int)) : World) = Y at *
    have hYs := hm.size
    have hsY : Same w Y := hsame.then hm (fun b hb x => by omega)
    obtain ⟨i, rfl⟩ : ∃ i, j = i + 1 := ⟨j - 1, by omega⟩
    rw [Nat.add_sub_cancel] at hFY
    have hcnt := hI.count
    by_cases hi : i < ls.length
    · have hl : ls[i]? = some l := by
        have : (fenceLs ls M fin)[i + 1]? = (ls ++ if fin then [fenceT M] else [])[i]? := rfl
        rw [this, List.getElem?_append_left hi] at hj
        exact hj
      have hlm : l ∈ ls := List.mem_of_getElem? hl
      refine (addLine_in w.heap.size g cap _ _ fb tv i M _ ea eb l nl Y hFY ⟨by have := hI.size l hlm; omega, hI.tab l hlm⟩ (hI.size l hlm) hI.most hEY (by omega) (hI.run l hlm)).mono ?_
      rintro e w2 ⟨rfl, hmI, c2, gt, ct, eb2, hFI, hlI⟩
      refine ⟨rfl, ?_, g, cap, v, c2, 1, ea, hg, Or.inr (Or.inl ⟨by omega, by omega, fb, .slice (some ⟨gt, 0, none⟩) (i + 1) ct, eb2, hfb, ?_, (fun _ => ⟨gt, ct, rfl⟩), ?_⟩)⟩
      · exact hsY.then hmI (fun b hb x => by
          rcases x with x | x | x | x
          · omega
          · omega
          · omega
          · have := htv b x; omega)
      · intro b hb
        have hgb : gt = b := Option.some.inj hb
        subst hgb
        rcases hlI with h | h
        · exact htv _ h
        · omega
      · have e1 : (ls.take (i + 1 + 1 - 1)).map Value.string = (ls.take i).map Value.string ++ [.string l] := by
          rw [show i + 1 + 1 - 1 = i + 1 by omega, List.take_add_one, hl, List.map_append]
          rfl
        rw [e1]
        exact hFI
    · have hil : i = ls.length := by omega
      subst hil
      have hf : l = fenceT M := by
        have : (fenceLs ls M fin)[ls.length + 1]? = (ls ++ if fin then [fenceT M] else [])[ls.length]? := rfl
        rw [this, List.getElem?_append_right (Nat.le_refl _), Nat.sub_self] at hj
        cases fin
        · cases hj
        · exact (Option.some.inj hj).symm
      subst hf
      obtain ⟨gt, ct, htvs⟩ := hts (by have := hI.ne; omega)
      subst htvs
      rw [List.take_length] at hFY
      refine (addLine_close w.heap.size g cap _ _ fb gt ct ls.length M _ ea eb nl Y hFY hI.big hI.most hEY (by omega)).mono ?_
      rintro e w2 ⟨rfl, hmI, u, hC⟩
      refine ⟨rfl, ?_, g, cap, v, c, 0, ea, hg, Or.inr (Or.inr ⟨by omega, u, hC⟩)⟩
      exact hsY.then hmI (fun b hb x => by
        rcases x with x | x
        · omega
        · omega)
  · exfalso
    have hlt := (List.getElem?_eq_some_iff.1 hj).1
    unfold fenceLs at hlt
    cases fin <;> simp at hlt <;> omega

/-- The document of one block of code, closed. -/
structure DocC (w : World) (bp pp m M : Nat) (xs : List Value) : Prop where
  ex : ∃ rk u ig ic x y q, PsAt w bp q ∧ q.root = .pointer (some ⟨rk, 0, none⟩) ∧ q.parser = pp ∧ q.texts = .slice none 0 0 ∧ Blk w rk #[.int .i64 x, .int .i64 y, .slice (some ⟨ig, 0, none⟩) 1 ic, .map none] 339 ∧
    w.ownsRow 0 68 1 (.slice (some ⟨ig, 0, none⟩) 1 ic) 1 [.iface 261 u] ∧ CodeAt w u M m xs

theorem DocC.same {w w' : World} {bp pp m M : Nat} {xs : List Value} (h : DocC w bp pp m M xs) (hm : Same w w') : DocC w' bp pp m M xs := by
  obtain ⟨rk, u, ig, ic, x, y, q, a1, a2, a3, a4, a5, a6, a7⟩ := h
  exact ⟨rk, u, ig, ic, x, y, q, a1.same hm, a2, a3, a4, hm.blk a5, ownsRow_keep a6 hm (fun _ _ x => x), a7.keep hm (fun _ _ _ x => x) (fun _ _ _ x => x)⟩

theorem closeDocF (bp g cap pp m M : Nat) (p : PSt) (v : Option Addr) (u : Value) (xs : List Value) (ea : Int) (w : World) (h : CodeL w bp g cap p (rootV' v) u m M xs ea) (hl : p.links = .map none) (hpp : p.parser = pp) (htx : p.texts = .slice none 0 0) :
    Calls Tryz.prog 73 #[.pointer (some ⟨bp, 0, none⟩)] w fun e w' => ∃ r, e = .returned r ∧ Mods (fun k => k = bp) w w' ∧ (∃ a cap', w'.cell? ⟨bp, 4, none⟩ = some (.slice a 0 cap')) ∧ DocC w' bp pp m M xs := by
  obtain ⟨⟨c, ig, ic, a1, a2, a3⟩, hC⟩ := h
  refine (closeRoot bp g cap _ v (some ⟨ig, 0, none⟩) 1 ic none 0 ea w a1 rfl a2 hl).mono ?_
  rintro e w' ⟨r, rfl, hm, rk, hrk, hR, hp⟩
  obtain ⟨tail, htl⟩ := id a1
  exact ⟨r, rfl, hm, ⟨_, _, hp.stack⟩, rk, u, ig, ic, 0, ea, _, hp, rfl, hpp, htx, hR, ownsRow_keep a3 hm (fun k hk x => own_ne_ps a3 a1 (by decide) (by rw [← x]; exact hk)), hC.keep hm (fun b cs hb x => hb.ne_of_type htl (by decide) x) (fun b cs hb x => hb.ne_of_type htl (by decide) x)⟩

theorem rdF_close (w W : World) (pp : Nat) (ls : List ByteArray) (M : Nat) (fin : Bool) (hI : Inside ls M) (h : RdF w W pp ls M (fenceLs ls M fin).length) :
    Calls Tryz.prog 65 #[.pointer (some ⟨w.heap.size, 0, none⟩), .int .i64 0] W fun e w' => e = .returned (.tuple #[]) ∧ Same w w' ∧ DocC w' w.heap.size pp ls.length M (ls.map .string) := by
  have hlen : (fenceLs ls M fin).length = ls.length + 1 + (if fin then 1 else 0) := by
    unfold fenceLs
    cases fin <;> simp
  rw [hlen] at h
  obtain ⟨hsame, g, cap, v, c, d, ea, hg, hst⟩ := h
  rcases hst with ⟨hj, _⟩ | ⟨hj0, hj2, fb, tv, eb, hfb, htv, hts, hF⟩ | ⟨hj0, u, hC⟩
  · omega
  · have hfin : fin = false := by
      cases fin
      · rfl
      · rw [if_pos rfl] at hj2; omega
    subst hfin
    have e1 : ls.length + 1 + (if false = true then 1 else 0) - 1 = ls.length := by simp
    rw [e1] at hF hts
    obtain ⟨gt, ct, htvs⟩ := hts (by have := hI.ne; simp; omega)
    subst htvs
    rw [List.take_length] at hF
    refine trimStack_gen w.heap.size 0 (fun j V => match j with
      | 2 => V = W
      | 1 => Same w V ∧ ∃ u, CodeL V w.heap.size g cap (pF pp g cap 2 (ls.length + 1 + (if false = true then 1 else 0)) d c) (rootV' v) u ls.length M (ls.map .string) ea
      | 0 => Same w V ∧ DocC V w.heap.size pp ls.length M (ls.map .string) ∧ ∃ a cap', V.cell? ⟨w.heap.size, 4, none⟩ = some (.slice a 0 cap')
      | _ => False) (by omega) ?_ ?_ 2 W rfl |>.mono (fun e w' ⟨h1, h2, h3, _⟩ => ⟨h1, h2, h3⟩)
    · intro j V hP
      match j, hP with
      | 2, hP => subst hP; exact ⟨by omega, _, _, hF.at_.stack⟩
      | 1, ⟨_, u, hC⟩ =>
        obtain ⟨c2, ig, ic, a1, _, _⟩ := hC.ex
        exact ⟨by omega, _, _, a1.stack⟩
      | 0, ⟨_, _, a, cap', h4⟩ => exact ⟨by omega, _, _, h4⟩
    · intro j V hP
      match j, hP with
      | 1, hP =>
        subst hP
        exact (closeFence w.heap.size g cap _ (rootV' v) fb gt ct ls.length M _ ea eb V hF).mono fun e w' ⟨u, h1, h2, h3⟩ => ⟨_, h1, hsame.then h2 (fun b hb x => by rcases x with x | x <;> omega), u, h3⟩
      | 0, ⟨hs1, u, hC⟩ =>
        exact (closeDocF w.heap.size g cap pp ls.length M _ v u _ ea V hC rfl rfl rfl).mono fun e w' ⟨r, h1, h2, h3, h4⟩ => ⟨r, h1, hs1.then h2 (fun b hb x => by omega), h4, h3⟩
  · refine trimStack_gen w.heap.size 0 (fun j V => match j with
      | 1 => V = W
      | 0 => Same w V ∧ DocC V w.heap.size pp ls.length M (ls.map .string) ∧ ∃ a cap', V.cell? ⟨w.heap.size, 4, none⟩ = some (.slice a 0 cap')
      | _ => False) (by omega) ?_ ?_ 1 W rfl |>.mono (fun e w' ⟨h1, h2, h3, _⟩ => ⟨h1, h2, h3⟩)
    · intro j V hP
      match j, hP with
      | 1, hP =>
        subst hP
        obtain ⟨c2, ig, ic, a1, _, _⟩ := hC.ex
        exact ⟨by omega, _, _, a1.stack⟩
      | 0, ⟨_, _, a, cap', h4⟩ => exact ⟨by omega, _, _, h4⟩
    · intro j V hP
      match j, hP with
      | 0, hP =>
        subst hP
        exact (closeDocF w.heap.size g cap pp ls.length M _ v u _ ea V hC rfl rfl rfl).mono fun e w' ⟨r, h1, h2, h3, h4⟩ => ⟨r, h1, hsame.then h2 (fun b hb x => by omega), h4, h3⟩

theorem parse_fence (pp : Nat) (ls : List ByteArray) (M : Nat) (fin : Bool) (w : World) (hI : Inside ls M) (hE : EntAt w) (hO : Off w pp) (rest : Nat → ByteArray) (hF : Feed rest (fenceLs ls M fin)) :
    Calls Tryz.prog 51 #[.pointer (some ⟨pp, 0, none⟩), .string (rest 0)] w fun e w' => ∃ rk c, e = .returned (.tuple #[.pointer (some ⟨rk, 0, none⟩), .bool c]) ∧ w'.cell? ⟨w.heap.size, 1, none⟩ = some (.pointer (some ⟨rk, 0, none⟩)) ∧ Same w w' ∧ DocC w' w.heap.size pp ls.length M (ls.map .string) := by
  refine (parse_gen pp rest (fenceLs ls M fin) w hF (fun j W => RdF w W pp ls M j) (fun tx i W => tx = .slice none 0 0 ∧ Same w W ∧ DocC W w.heap.size pp ls.length M (ls.map .string)) 0 (by omega) ?_).mono ?_
  · refine ⟨fun j W h => h.line, fun j W W' h hm => h.keep hm, ?_, fun j l nl W hj h => rdF_step w W pp ls M j fin l nl hI hE hj h, ?_, fun a c i W hi => absurd hi (Nat.not_lt_zero _), fun tx i W W' ⟨h1, h2, h3⟩ hm => ⟨h1, h2.trans hm, h3.same hm⟩, ?_⟩
    · intro W g cap v hS hg hp hr
      exact ⟨hS, g, cap, v, false, -1, 0, hg, Or.inl ⟨rfl, rfl, rfl, hp, hr⟩⟩
    · intro W h
      refine (rdF_close w W pp ls M fin hI h).mono ?_
      rintro e w' ⟨rfl, hS, hD⟩
      obtain ⟨rk, u, ig, ic, x, y, q, a1, a2, a3, a4, a5, a6, a7⟩ := id hD
      exact ⟨rfl, none, 0, by rw [a1.texts, a4], rfl, hS, hD⟩
    · intro tx W ⟨_, hS, hD⟩
      obtain ⟨rk, u, ig, ic, x, y, q, a1, a2, a3, a4, a5, a6, a7⟩ := id hD
      exact ⟨⟨rk, by rw [a1.root, a2]⟩, ⟨_, a1.corner⟩, ((hO.same hS).opt (p := p0 pp) rfl 2 (by omega)).cell, by rw [a1.parser, a3]⟩
  · rintro e w' ⟨rk, c, h1, h2, tx, _, h3, h4⟩
    exact ⟨rk, c, h1, h2, h3, h4⟩
end Go.Proofs.YtdnlfdppjfjncaaGreatDoor
