/- newText; a paragraph is built. -/
import Derived.Test.YtdnlfdppjfjncaaGreatDoorBuild
import Derived.Deep.RegionWith
namespace Go.Proofs.YtdnlfdppjfjncaaGreatDoor
open Go Go.RowKit Go.Proofs

/-- What newText leaves. -/
structure Texted (w w' : World) (bp : Nat) (p : PSt) (nt : Nat) (lt : List Value) (tb : Nat) (s e : Int) (raw : ByteArray) : Prop where
  mods : Mods (fun k => k = bp ∨ p.texts.ownBlock = some k) w w'
  new : w.heap.size ≤ tb
  text : Blk w' tb #[.int .i64 s, .int .i64 e, .slice none 0 0, .string raw] 110
  ex : ∃ g cap, PsAt w' bp { p with texts := .slice (some ⟨g, 0, none⟩) (nt + 1) cap } ∧
    w'.ownsRow 0 105 1 (.slice (some ⟨g, 0, none⟩) (nt + 1) cap) (nt + 1) (lt ++ [.pointer (some ⟨tb, 0, none⟩)])

set_option maxHeartbeats 2000000 in
theorem newText_any (bp nt : Nat) (p : PSt) (lt : List Value) (s e : Int) (raw : ByteArray) (w : World) (hp : PsAt w bp p) (hown : w.ownsRow 0 105 1 p.texts nt lt) (hnt : nt ≤ 100000) :
    Calls Tryz.prog 142 #[.pointer (some ⟨bp, 0, none⟩), .agg #[.int .i64 s, .int .i64 e], .string raw] w fun e' w' => ∃ tb, e' = .returned (.pointer (some ⟨tb, 0, none⟩)) ∧ Texted w w' bp p nt lt tb s e raw := by
  go_enter Tryz.func142, Tryz.ntmps142
  have k11 := hp.texts
  have hbl := hp.lt
  generalize htx : p.texts = tx at *
  go_wp2_with (at_builtin; refine ap_txt rfl (.tmp 16) (.tmp 18) rfl tx nt lt rfl (((hown.alloc _).alloc _).alloc _) (w.heap.size + 1 + 1) 1 (some ⟨w.heap.size + 1, 0, none⟩) rfl ?_ (by omega) ?_)
  · exact (Blk.newAt (n := w.heap.size + 1 + 1) _ _ (by simp)).cell 0
  · intro g cap w1 hown1 hgrow hloc
    generalize hW : (((w.alloc _).alloc _).alloc _ : World) = W at *
    have hm0 : Same w W := by subst hW; exact (((Mods.refl _ w).alloc _).alloc _).alloc _
    have hsz : W.heap.size = w.heap.size + 3 := by subst hW; simp
    have hT : Blk W (w.heap.size + 1) #[.int .i64 s, .int .i64 e, .slice none 0 0, .string raw] 110 := by
      subst hW; exact (Blk.newAt _ _ (by simp)).alloc _
    clear hW
    have hmA := grown_mods hgrow
    have hp1 : PsAt w1 bp p := by
      refine (hp.same hm0).keep hmA (fun h => ?_)
      obtain ⟨tail, htl⟩ := id hp
      rcases hown.2 with ⟨rfl, _⟩ | ⟨g', cap', cur', rfl, _, hg', _⟩
      · cases h
      · cases h
        exact Blk.ne_of_type (T := 105) hg' htl (by decide) rfl
    have hT1 := hT.keep hmA (fun h => by have := (hown.lt _ h).2; omega)
    have k11' := hp1.texts
    rw [htx] at k11'
    have f11 := hp1.fr 11
    have hbl1 := hp1.lt
    clear k11 hbl
    go_wp2
    go_ret
    obtain ⟨_, _, he, ⟨cur, hcur⟩, _, _⟩ := ownsRow_form hown1 (by omega)
    cases he
    obtain ⟨tail, htl⟩ := id hp1
    have hgbp : g ≠ bp := hcur.ne_of_type htl (by decide)
    have htbp : w.heap.size + 1 ≠ bp := hT1.ne_of_type htl (by decide)
    have hm2 : Mods (fun k => k = bp) w1 (w1.setCell ⟨bp, 11, none⟩ (.slice (some ⟨g, 0, none⟩) (nt + 1) cap)) := (Mods.refl (fun k => k = bp) w1).setCell (p := ⟨bp, 11, none⟩) (fun _ => rfl) _
    refine ⟨w.heap.size + 1, rfl, ?_, by omega, hT1.keep1 hm2 htbp, g, cap, hp1.set 11 _ _ rfl (by decide), ?_⟩
    · have m1 : Mods (fun k => k = bp ∨ p.texts.ownBlock = some k) w w1 := (hm0.mono (fun _ _ h => absurd h (fun x => x))).then hmA (fun _ _ h => Or.inr (by rw [htx]; exact h))
      exact m1.then hm2 (fun _ _ h => Or.inl h)
    · exact ownsRow_keep hown1 hm2 (fun g' hg' => by cases hg'; exact hgbp)

/-- newText beside a block of two numbers that it does not touch. -/
theorem newText_beside (bp nt : Nat) (p : PSt) (lt : List Value) (s e : Int) (raw : ByteArray) (w : World) (pb : Nat) (x y : Int) (hp : PsAt w bp p) (hown : w.ownsRow 0 105 1 p.texts nt lt) (hnt : nt ≤ 100000)
    (hP : Blk w pb #[.int .i64 x, .int .i64 y] 108) :
    Calls Tryz.prog 142 #[.pointer (some ⟨bp, 0, none⟩), .agg #[.int .i64 s, .int .i64 e], .string raw] w fun e' w' => ∃ tb, e' = .returned (.pointer (some ⟨tb, 0, none⟩)) ∧ Texted w w' bp p nt lt tb s e raw ∧
      w'.cell? ⟨pb, 0, none⟩ = some (.int .i64 x) ∧ w'.cell? ⟨pb, 1, none⟩ = some (.int .i64 y) :=
  (newText_any bp nt p lt s e raw w hp hown hnt).mono fun e' w' ⟨tb, he, hT⟩ => by
    have hk := hP.keep hT.mods (by
      intro h
      rcases h with h | h
      · obtain ⟨tail, htl⟩ := id hp
        exact hP.ne_of_type htl (by decide) h
      · rcases hown.2 with ⟨h2, _⟩ | ⟨g', cap', cur', h2, _, hg', _⟩
        · rw [h2] at h; cases h
        · rw [h2] at h
          have : g' = pb := Option.some.inj h
          exact hP.ne_of_type (T' := 105) hg' (by decide) this.symm)
    exact ⟨tb, he, hT, hk.cell 0, hk.cell 1⟩

theorem m_pos (k : Nat) (a : Addr) (w : World) : (method (k + 1) 116 (.pointer (some a)) "pub-paratext/pub/rscmarkdown.pos").run Tryz.prog w = .ok (260, .pointer (some a)) w := by kernel_rfl
theorem m_newText (k : Nat) (a : Addr) (w : World) : (method (k + 1) 116 (.pointer (some a)) "pub-paratext/pub/rscmarkdown.newText").run Tryz.prog w = .ok (142, .pointer (some a)) w := by kernel_rfl
theorem m_blocks (k : Nat) (a : Addr) (w : World) : (method (k + 1) 116 (.pointer (some a)) "pub-paratext/pub/rscmarkdown.blocks").run Tryz.prog w = .ok (259, .pointer (some a)) w := by kernel_rfl

/-- What building a paragraph leaves. -/
structure ParaBuilt (w w' : World) (bp : Nat) (p : PSt) (nt : Nat) (lt : List Value) (s e : Int) (raw : ByteArray) (v : Value) : Prop where
  mods : Mods (fun k => k = bp ∨ p.texts.ownBlock = some k) w w'
  ex : ∃ pk tb g cap, v = .iface 153 (.pointer (some ⟨pk, 0, none⟩)) ∧ w.heap.size ≤ pk ∧ w.heap.size ≤ tb ∧
    Blk w' pk #[.int .i64 s, .int .i64 e, .pointer (some ⟨tb, 0, none⟩)] 155 ∧
    Blk w' tb #[.int .i64 s, .int .i64 e, .slice none 0 0, .string raw] 110 ∧
    PsAt w' bp { p with texts := .slice (some ⟨g, 0, none⟩) (nt + 1) cap } ∧
    w'.ownsRow 0 105 1 (.slice (some ⟨g, 0, none⟩) (nt + 1) cap) (nt + 1) (lt ++ [.pointer (some ⟨tb, 0, none⟩)])

theorem ParaBuilt.mk' {w W w4 : World} {bp : Nat} {p : PSt} {nt : Nat} {lt : List Value} {s e : Int} {raw : ByteArray} {tb : Nat} (hk : Same w W) (hT : Texted W w4 bp p nt lt tb s e raw) :
    ParaBuilt w (w4.alloc (.cells #[.int .i64 s, .int .i64 e, .pointer (some ⟨tb, 0, none⟩)] 155)) bp p nt lt s e raw (.iface 153 (.pointer (some ⟨w4.heap.size, 0, none⟩))) := by
  obtain ⟨g, cap, hp, hrow⟩ := hT.ex
  have hm : Mods (fun k => k = bp ∨ p.texts.ownBlock = some k) w w4 := (hk.mono (fun _ _ h => absurd h (fun x => x))).then hT.mods (fun _ _ h => h)
  have h1 := hk.size
  have h2 := hT.mods.size
  have h3 := hT.new
  exact ⟨hm.alloc _, w4.heap.size, tb, g, cap, rfl, by omega, by omega, Blk.newAt _ _ rfl, hT.text.alloc _, hp.alloc _, hrow.alloc _⟩

set_option maxRecDepth 100000 in
set_option maxHeartbeats 2000000 in
theorem paraBuild_any (bp bb g n cap nt : Nat) (p : PSt) (l lt : List Value) (c i tv : Value) (sl el : Int) (nl : Nat) (_xs : List Value) (s : ByteArray) (w : World) (hp : PsAt w bp p) (hst : p.stack = .slice (some ⟨g, 0, none⟩) (n + 1) cap) (hn : n ≤ 1000)
    (hown : w.ownsRow 0 121 4 (.slice (some ⟨g, 0, none⟩) (n + 1) cap) (n + 1) (l ++ [c, i, .int .i64 sl, .int .i64 el]))
    (hB : Blk w bb #[tv, .pointer none] 166) (htv : ∃ a cp, tv = .slice a nl cp) (hnl : nl ≤ 100000)
    (htx : w.ownsRow 0 105 1 p.texts nt lt) (hnt : nt ≤ 100000)
    (hJ : ∀ W, Same w W → Calls Tryz.prog 29 #[tv, .string ⟨#[10]⟩] W fun e W' => e = .returned (.string s) ∧ Same W W')
    (h0 : 0 < s.size) (hs : s.size ≤ 1000000) (h1 : s[0] ≠ 32) (h2 : s[0] ≠ 9) (h3 : s[0] ≠ 10) (h4 : s[0] ≠ 91) (hsl : 0 ≤ sl) (hsl2 : sl ≤ 1000000) :
    Calls Tryz.prog 288 #[.pointer (some ⟨bb, 0, none⟩), .iface 116 (.pointer (some ⟨bp, 0, none⟩))] w
      fun e w' => ∃ v, e = .returned v ∧ ParaBuilt w w' bp p nt lt sl (sl + nl - 1) s v := by
  obtain ⟨a0, cp, rfl⟩ := htv
  have b0 : w.cell? ⟨bb, 0, none⟩ = some (.slice a0 nl cp) := hB.cell 0
  have b1 : w.cell? ⟨bb, 1, none⟩ = some (.pointer none) := hB.cell 1
  go_enter Tryz.func288, Tryz.ntmps288
  go_wp2_with fail
  refine (hJ w (Mods.refl _ _)).mono ?_
  rintro e w1 ⟨rfl, hm1⟩
  have hB1 := Same.blk hm1 hB
  clear b0 b1 hJ
  have e0 : s.toList.isEmpty = false := bs_ne h0
  have e0' : (!s.toList.isEmpty) = true := by rw [e0]; rfl
  go_wp2_with fail
  go_loopg [5, 6, 7] 0 (fun g a b c wr => w1 = wr ∧ a = .string s)
  case atStart => exact ⟨rfl, rfl⟩
  case round =>
    obtain ⟨rfl, rfl⟩ := hrel
    go_wp2_with fail
    refine (parseLinkRefDef_no _ s w1 h0 hs h1 h2 h3 h4).mono ?_
    rintro e w' ⟨rfl, rfl⟩
    have hpos := m_pos
    have hntx := m_newText
    go_wp2_with fail
    have hp1 := hp.same hm1
    have hown1 := ownsRow_keep hown hm1 (fun _ _ x => x)
    refine (pos_any bp g n cap p l c i sl el w1 hp1 hst hn hown1).mono ?_
    rintro e w2 ⟨rfl, hm2⟩
    have hB2 := Same.blk hm2 hB1
    have b0 : w2.cell? ⟨bb, 0, none⟩ = some (.slice a0 nl cp) := hB2.cell 0
    have b1 : w2.cell? ⟨bb, 1, none⟩ = some (.pointer none) := hB2.cell 1
    have bbl := hB2.lt
    have e1 : IntKind.i64.wrap (sl + nl) = sl + nl := IntWalk.i64_in _ (by omega)
    have e2 : IntKind.i64.wrap (sl + nl - 1) = sl + nl - 1 := IntWalk.i64_in _ (by omega)
    go_wp2_with fail
    go_region
    go_wp2_with fail
    generalize hX : ((w2.alloc _).drew : World) = W3
    have hm3 : Same w2 W3 := by subst hX; exact ((Mods.refl _ w2).alloc _).drew
    have hP3 : Blk W3 w2.heap.size #[.int .i64 sl, .int .i64 (sl + nl - 1)] 108 := by subst hX; exact Blk.newAt _ _ rfl
    clear hX b0 b1 bbl e1 e2
    have hm13 := (hm1.trans hm2).trans hm3
    have hp3 := hp.same hm13
    have htx3 := ownsRow_keep htx hm13 (fun _ _ x => x)
    have p0 : W3.cell? ⟨w2.heap.size, 0, none⟩ = some (.int .i64 sl) := hP3.cell 0
    have p1 : W3.cell? ⟨w2.heap.size, 1, none⟩ = some (.int .i64 (sl + nl - 1)) := hP3.cell 1
    go_region_with ((go_at_call 142; refine (newText_beside bp nt p lt sl (sl + nl - 1) s _ w2.heap.size sl (sl + nl - 1) (PsAt.drew hp3) htx3 hnt (Blk.drew hP3)).mono ?_; rintro e w4 ⟨tb, rfl, hT, q0, q1⟩))
    all_goals
      go_wp2
      go_ret
      exact ⟨_, rfl, ParaBuilt.mk' (hm13.drew) hT⟩
end Go.Proofs.YtdnlfdppjfjncaaGreatDoor
