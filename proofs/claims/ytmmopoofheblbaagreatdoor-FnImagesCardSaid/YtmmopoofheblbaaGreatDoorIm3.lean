/- Some texts of one proof, put into one file: Build2, Close, Close2, Close3, Search, Inl. -/
import Derived.Deep.RegionWith
import Derived.Deep.RegionLaw
import Derived.Test.YtmmopoofheblbaaGreatDoorIm2
/- newText; a paragraph is built. -/
namespace Go.Proofs.YtmmopoofheblbaaGreatDoor
open Go Go.RowKit Go.Proofs

/-- What newText leaves. -/
structure Texted (w w' : World) (bp : Nat) (p : PSt) (nt : Nat) (lt : List Value) (tb : Nat) (s e : Int) (raw : ByteArray) : Prop where
  mods : Mods (fun k => k = bp ∨ p.texts.ownBlock = some k) w w'
  new : w.heap.size ≤ tb
  text : Blk w' tb #[.int .i64 s, .int .i64 e, .slice none 0 0, .string raw] 135
  ex : ∃ g cap, PsAt w' bp { p with texts := .slice (some ⟨g, 0, none⟩) (nt + 1) cap } ∧
    w'.ownsRow 0 131 1 (.slice (some ⟨g, 0, none⟩) (nt + 1) cap) (nt + 1) (lt ++ [.pointer (some ⟨tb, 0, none⟩)])

set_option maxHeartbeats 2000000 in
theorem newText_any (bp nt : Nat) (p : PSt) (lt : List Value) (s e : Int) (raw : ByteArray) (w : World) (hp : PsAt w bp p) (hown : w.ownsRow 0 131 1 p.texts nt lt) (hnt : nt ≤ 100000) :
    Calls Tryz.prog 221 #[.pointer (some ⟨bp, 0, none⟩), .agg #[.int .i64 s, .int .i64 e], .string raw] w fun e' w' => ∃ tb, e' = .returned (.pointer (some ⟨tb, 0, none⟩)) ∧ Texted w w' bp p nt lt tb s e raw := by
  go_enter Tryz.func221, Tryz.ntmps221
  have k11 := hp.texts
  have hbl := hp.lt
  generalize htx : p.texts = tx at *
  go_wp2_with (at_builtin; refine ap_txt rfl (.tmp 16) (.tmp 18) rfl tx nt lt rfl (((hown.alloc _).alloc _).alloc _) (w.heap.size + 1 + 1) 1 (some ⟨w.heap.size + 1, 0, none⟩) rfl ?_ (by omega) ?_)
  · exact (Blk.newAt (n := w.heap.size + 1 + 1) _ _ (by simp)).cell 0
  · intro g cap w1 hown1 hgrow hloc
    generalize hW : (((w.alloc _).alloc _).alloc _ : World) = W at *
    have hm0 : Same w W := by subst hW; exact (((Mods.refl _ w).alloc _).alloc _).alloc _
    have hsz : W.heap.size = w.heap.size + 3 := by subst hW; simp
    have hT : Blk W (w.heap.size + 1) #[.int .i64 s, .int .i64 e, .slice none 0 0, .string raw] 135 := by
      subst hW; exact (Blk.newAt _ _ (by simp)).alloc _
    clear hW
    have hmA := grown_mods hgrow
    have hp1 : PsAt w1 bp p := by
      refine (hp.same hm0).keep hmA (fun h => ?_)
      obtain ⟨tail, htl⟩ := id hp
      rcases hown.2 with ⟨rfl, _⟩ | ⟨g', cap', cur', rfl, _, hg', _⟩
      · cases h
      · cases h
        exact Blk.ne_of_type (T := 131) hg' htl (by decide) rfl
    have hT1 := hT.keep hmA (fun h => by have := (hown.lt _ h).2; omega)
    have k11' := hp1.texts
    rw [htx] at k11'
    have f11 := hp1.fr 11
    have hbl1 := hp1.lt
    clear k11 hbl
    go_wp2
    go_ret
    obtain ⟨_, _, he, ⟨cur, hcur⟩, _, _⟩ := ownsRow_form hown1 (by omega)
    cases he
    obtain ⟨tail, htl⟩ := id hp1
    have hgbp : g ≠ bp := hcur.ne_of_type htl (by decide)
    have htbp : w.heap.size + 1 ≠ bp := hT1.ne_of_type htl (by decide)
    have hm2 : Mods (fun k => k = bp) w1 (w1.setCell ⟨bp, 11, none⟩ (.slice (some ⟨g, 0, none⟩) (nt + 1) cap)) := (Mods.refl (fun k => k = bp) w1).setCell (p := ⟨bp, 11, none⟩) (fun _ => rfl) _
    refine ⟨w.heap.size + 1, rfl, ?_, by omega, hT1.keep1 hm2 htbp, g, cap, hp1.set 11 _ _ rfl (by decide), ?_⟩
    · have m1 : Mods (fun k => k = bp ∨ p.texts.ownBlock = some k) w w1 := (hm0.mono (fun _ _ h => absurd h (fun x => x))).then hmA (fun _ _ h => Or.inr (by rw [htx]; exact h))
      exact m1.then hm2 (fun _ _ h => Or.inl h)
    · exact ownsRow_keep hown1 hm2 (fun g' hg' => by cases hg'; exact hgbp)

/-- newText beside a block of two numbers that it does not touch. -/
theorem newText_beside (bp nt : Nat) (p : PSt) (lt : List Value) (s e : Int) (raw : ByteArray) (w : World) (pb : Nat) (x y : Int) (hp : PsAt w bp p) (hown : w.ownsRow 0 131 1 p.texts nt lt) (hnt : nt ≤ 100000)
    (hP : Blk w pb #[.int .i64 x, .int .i64 y] 106) :
    Calls Tryz.prog 221 #[.pointer (some ⟨bp, 0, none⟩), .agg #[.int .i64 s, .int .i64 e], .string raw] w fun e' w' => ∃ tb, e' = .returned (.pointer (some ⟨tb, 0, none⟩)) ∧ Texted w w' bp p nt lt tb s e raw ∧
      w'.cell? ⟨pb, 0, none⟩ = some (.int .i64 x) ∧ w'.cell? ⟨pb, 1, none⟩ = some (.int .i64 y) :=
  (newText_any bp nt p lt s e raw w hp hown hnt).mono fun e' w' ⟨tb, he, hT⟩ => by
    have hk := hP.keep hT.mods (by
      intro h
      rcases h with h | h
      · obtain ⟨tail, htl⟩ := id hp
        exact hP.ne_of_type htl (by decide) h
      · rcases hown.2 with ⟨h2, _⟩ | ⟨g', cap', cur', h2, _, hg', _⟩
        · rw [h2] at h; cases h
        · rw [h2] at h
          have : g' = pb := Option.some.inj h
          exact hP.ne_of_type (T' := 131) hg' (by decide) this.symm)
    exact ⟨tb, he, hT, hk.cell 0, hk.cell 1⟩

theorem m_pos (k : Nat) (a : Addr) (w : World) : (method (k + 1) 160 (.pointer (some a)) "pub-paratext/pub/rscmarkdown.pos").run Tryz.prog w = .ok (428, .pointer (some a)) w := by kernel_rfl
theorem m_newText (k : Nat) (a : Addr) (w : World) : (method (k + 1) 160 (.pointer (some a)) "pub-paratext/pub/rscmarkdown.newText").run Tryz.prog w = .ok (221, .pointer (some a)) w := by kernel_rfl
theorem m_blocks (k : Nat) (a : Addr) (w : World) : (method (k + 1) 160 (.pointer (some a)) "pub-paratext/pub/rscmarkdown.blocks").run Tryz.prog w = .ok (425, .pointer (some a)) w := by kernel_rfl

/-- What building a paragraph leaves. -/
structure ParaBuilt (w w' : World) (bp : Nat) (p : PSt) (nt : Nat) (lt : List Value) (s e : Int) (raw : ByteArray) (v : Value) : Prop where
  mods : Mods (fun k => k = bp ∨ p.texts.ownBlock = some k) w w'
  ex : ∃ pk tb g cap, v = .iface 136 (.pointer (some ⟨pk, 0, none⟩)) ∧ w.heap.size ≤ pk ∧ w.heap.size ≤ tb ∧
    Blk w' pk #[.int .i64 s, .int .i64 e, .pointer (some ⟨tb, 0, none⟩)] 138 ∧
    Blk w' tb #[.int .i64 s, .int .i64 e, .slice none 0 0, .string raw] 135 ∧
    PsAt w' bp { p with texts := .slice (some ⟨g, 0, none⟩) (nt + 1) cap } ∧
    w'.ownsRow 0 131 1 (.slice (some ⟨g, 0, none⟩) (nt + 1) cap) (nt + 1) (lt ++ [.pointer (some ⟨tb, 0, none⟩)])

theorem ParaBuilt.mk' {w W w4 : World} {bp : Nat} {p : PSt} {nt : Nat} {lt : List Value} {s e : Int} {raw : ByteArray} {tb : Nat} (hk : Same w W) (hT : Texted W w4 bp p nt lt tb s e raw) :
    ParaBuilt w (w4.alloc (.cells #[.int .i64 s, .int .i64 e, .pointer (some ⟨tb, 0, none⟩)] 138)) bp p nt lt s e raw (.iface 136 (.pointer (some ⟨w4.heap.size, 0, none⟩))) := by
  obtain ⟨g, cap, hp, hrow⟩ := hT.ex
  have hm : Mods (fun k => k = bp ∨ p.texts.ownBlock = some k) w w4 := (hk.mono (fun _ _ h => absurd h (fun x => x))).then hT.mods (fun _ _ h => h)
  have h1 := hk.size
  have h2 := hT.mods.size
  have h3 := hT.new
  exact ⟨hm.alloc _, w4.heap.size, tb, g, cap, rfl, by omega, by omega, Blk.newAt _ _ rfl, hT.text.alloc _, hp.alloc _, hrow.alloc _⟩

set_option maxRecDepth 100000 in
set_option maxHeartbeats 2000000 in
theorem paraBuild_any (bp bb g n cap nt : Nat) (p : PSt) (l lt : List Value) (c i tv : Value) (sl el : Int) (nl : Nat) (_xs : List Value) (s : ByteArray) (w : World) (hp : PsAt w bp p) (hst : p.stack = .slice (some ⟨g, 0, none⟩) (n + 1) cap) (hn : n ≤ 1000)
    (hown : w.ownsRow 0 239 4 (.slice (some ⟨g, 0, none⟩) (n + 1) cap) (n + 1) (l ++ [c, i, .int .i64 sl, .int .i64 el]))
    (hB : Blk w bb #[tv, .pointer none] 291) (htv : ∃ a cp, tv = .slice a nl cp) (hnl : nl ≤ 100000)
    (htx : w.ownsRow 0 131 1 p.texts nt lt) (hnt : nt ≤ 100000)
    (hJ : ∀ W, Same w W → Calls Tryz.prog 209 #[tv, .string ⟨#[10]⟩] W fun e W' => e = .returned (.string s) ∧ Same W W')
    (h0 : 0 < s.size) (hs : s.size ≤ 1000000) (h1 : s[0] ≠ 32) (h2 : s[0] ≠ 9) (h3 : s[0] ≠ 10) (h4 : s[0] ≠ 91) (hsl : 0 ≤ sl) (hsl2 : sl ≤ 1000000) :
    Calls Tryz.prog 394 #[.pointer (some ⟨bb, 0, none⟩), .iface 160 (.pointer (some ⟨bp, 0, none⟩))] w
      fun e w' => ∃ v, e = .returned v ∧ ParaBuilt w w' bp p nt lt sl (sl + nl - 1) s v := by
  obtain ⟨a0, cp, rfl⟩ := htv
  have b0 : w.cell? ⟨bb, 0, none⟩ = some (.slice a0 nl cp) := hB.cell 0
  have b1 : w.cell? ⟨bb, 1, none⟩ = some (.pointer none) := hB.cell 1
  go_enter Tryz.func394, Tryz.ntmps394
  go_wp2_with fail
  refine (hJ w (Mods.refl _ _)).mono ?_
  rintro e w1 ⟨rfl, hm1⟩
  have hB1 := Same.blk hm1 hB
  clear b0 b1 hJ
  have e0 : s.toList.isEmpty = false := bs_ne h0
  have e0' : (!s.toList.isEmpty) = true := by rw [e0]; rfl
  go_wp2_with fail
  go_loopg [5, 6, 7] 0 (fun g a b c wr => w1 = wr ∧ a = .string s)
  case atStart => exact ⟨rfl, rfl⟩
  case round =>
    obtain ⟨rfl, rfl⟩ := hrel
    go_wp2_with fail
    refine (parseLinkRefDef_no _ s w1 h0 hs h1 h2 h3 h4).mono ?_
    rintro e w' ⟨rfl, rfl⟩
    have hpos := m_pos
    have hntx := m_newText
    go_wp2_with fail
    have hp1 := hp.same hm1
    have hown1 := ownsRow_keep hown hm1 (fun _ _ x => x)
    refine (pos_any bp g n cap p l c i sl el w1 hp1 hst hn hown1).mono ?_
    rintro e w2 ⟨rfl, hm2⟩
    have hB2 := Same.blk hm2 hB1
    have b0 : w2.cell? ⟨bb, 0, none⟩ = some (.slice a0 nl cp) := hB2.cell 0
    have b1 : w2.cell? ⟨bb, 1, none⟩ = some (.pointer none) := hB2.cell 1
    have bbl := hB2.lt
    have e1 : IntKind.i64.wrap (sl + nl) = sl + nl := IntWalk.i64_in _ (by omega)
    have e2 : IntKind.i64.wrap (sl + nl - 1) = sl + nl - 1 := IntWalk.i64_in _ (by omega)
    go_wp2_with fail
    go_region
    go_wp2_with fail
    generalize hX : ((w2.alloc _).drew : World) = W3
    have hm3 : Same w2 W3 := by subst hX; exact ((Mods.refl _ w2).alloc _).drew
    have hP3 : Blk W3 w2.heap.size #[.int .i64 sl, .int .i64 (sl + nl - 1)] 106 := by subst hX; exact Blk.newAt _ _ rfl
    clear hX b0 b1 bbl e1 e2
    have hm13 := (hm1.trans hm2).trans hm3
    have hp3 := hp.same hm13
    have htx3 := ownsRow_keep htx hm13 (fun _ _ x => x)
    have p0 : W3.cell? ⟨w2.heap.size, 0, none⟩ = some (.int .i64 sl) := hP3.cell 0
    have p1 : W3.cell? ⟨w2.heap.size, 1, none⟩ = some (.int .i64 (sl + nl - 1)) := hP3.cell 1
    go_region_with ((go_at_call 221; refine (newText_beside bp nt p lt sl (sl + nl - 1) s _ w2.heap.size sl (sl + nl - 1) (PsAt.drew hp3) htx3 hnt (Blk.drew hP3)).mono ?_; rintro e w4 ⟨tb, rfl, hT, q0, q1⟩))
    all_goals
      go_wp2
      go_ret
      exact ⟨_, rfl, ParaBuilt.mk' (hm13.drew) hT⟩
end Go.Proofs.YtmmopoofheblbaaGreatDoor

/- closeBlock where a paragraph is on top; where the document is. -/
namespace Go.Proofs.YtmmopoofheblbaaGreatDoor
open Go Go.RowKit Go.Proofs

theorem not_texts {w : World} {bp : Nat} {p : PSt} {nt : Nat} {lt : List Value} (hp : PsAt w bp p) (htx : w.ownsRow 0 131 1 p.texts nt lt) {b : Nat} {cs : Array Value} {T : Nat} (h : Blk w b cs T)
    (h1 : T ≠ 167) (h2 : T ≠ 131) : ¬ (b = bp ∨ p.texts.ownBlock = some b) := by
  intro hh
  rcases hh with hh | hh
  · obtain ⟨tail, htl⟩ := id hp
    exact h.ne_of_type htl h1 hh
  · rcases htx.2 with ⟨hv, _⟩ | ⟨g', cap', cur', hv, _, hg', _⟩
    · rw [hv] at hh; cases hh
    · rw [hv] at hh
      have : g' = b := Option.some.inj hh
      exact h.ne_of_type (T' := 131) hg' h2 this.symm

/-- A row of another type is kept where only the state and the list of texts have changed. -/
theorem row_texts {w w' : World} {bp : Nat} {p : PSt} {nt : Nat} {lt : List Value} (hp : PsAt w bp p) (htx : w.ownsRow 0 131 1 p.texts nt lt) (hm : Mods (fun k => k = bp ∨ p.texts.ownBlock = some k) w w')
    {e size n : Nat} {v : Value} {xs : List Value} (h : w.ownsRow 0 e size v n xs) (h1 : e ≠ 167) (h2 : e ≠ 131) : w'.ownsRow 0 e size v n xs := by
  refine ownsRow_keep h hm (fun g hg => ?_)
  rcases h.2 with ⟨hv, _⟩ | ⟨g', cap', cur', hv, _, hg', _⟩
  · rw [hv] at hg; cases hg
  · rw [hv] at hg
    have : g' = g := Option.some.inj hg
    subst this
    exact not_texts hp htx (T := e) hg' h1 h2

theorem ownsRow_pop {w : World} {e size n g cap : Nat} {xs ys : List Value} (h : w.ownsRow 0 e size (.slice (some ⟨g, 0, none⟩) (n + 1) cap) (n + 1) (xs ++ ys)) (hy : ys.length = size) :
    w.ownsRow 0 e size (.slice (some ⟨g, 0, none⟩) n cap) n xs := by
  obtain ⟨h1, h2⟩ := h
  have hx : xs.length = n * size := by
    rw [List.length_append, hy, Nat.add_mul] at h1
    omega
  refine ⟨hx, .inr ?_⟩
  rcases h2 with ⟨h2, _⟩ | ⟨g', cap', cur, hv, hb, hg, hc, hm, hs, ht⟩
  · cases h2
  · cases hv
    refine ⟨g, cap, cur, rfl, hb, hg, by omega, hm, hs, ?_⟩
    have : (cur.toList.take ((n + 1) * size)).take (n * size) = xs := by
      rw [ht, ← hx]; simp
    rw [← this, List.take_take, Nat.min_eq_left (by rw [Nat.add_mul]; omega)]

theorem eql_builder_nil (T : Nat) (v : Value) (w : World) : (binOp .eql 237 (.iface T v) .nilIface).run Tryz.prog w = .ok (.bool false) w := by kernel_rfl
theorem m_build_para (k : Nat) (a : Addr) (w : World) : (method (k + 1) 287 (.pointer (some a)) "pub-paratext/pub/rscmarkdown.build").run Tryz.prog w = .ok (394, .pointer (some a)) w := by kernel_rfl
theorem m_build_root (k : Nat) (a : Addr) (w : World) : (method (k + 1) 172 (.pointer (some a)) "pub-paratext/pub/rscmarkdown.build").run Tryz.prog w = .ok (342, .pointer (some a)) w := by kernel_rfl
theorem as_List_no (T X : Nat) (v : Value) (w : World) (h : T ≠ 123) :
    (Instr.typeAssert (.iface T v) X 123 true).run Tryz.prog w = .ok (.tuple #[.pointer none, .bool false]) w :=
  as_ptr_no T _ 125 (by kernel_rfl) (fun _ => by kernel_rfl) X v w h

/-- A row's block is none of another type's. -/
theorem own_ne {w : World} {e size n b T : Nat} {v : Value} {xs : List Value} {cs : Array Value} (h : w.ownsRow 0 e size v n xs) (hb : Blk w b cs T) (hT : T ≠ e) : ¬ v.ownBlock = some b := by
  intro hv
  rcases h.2 with ⟨h2, _⟩ | ⟨g', cap', cur', h2, _, hg', _⟩
  · rw [h2] at hv; cases hv
  · rw [h2] at hv
    have : g' = b := Option.some.inj hv
    subst this
    exact hb.ne_of_type (T' := e) hg' hT rfl
theorem own_ne_ps {w : World} {e size n bp : Nat} {p : PSt} {v : Value} {xs : List Value} (h : w.ownsRow 0 e size v n xs) (hp : PsAt w bp p) (he : e ≠ 167) : ¬ v.ownBlock = some bp := by
  obtain ⟨tail, htl⟩ := id hp
  exact own_ne h htl (Ne.symm he)
theorem own_ne_row {w : World} {e size n e' size' n' g : Nat} {v v' : Value} {xs xs' : List Value} (h : w.ownsRow 0 e size v n xs) (h' : w.ownsRow 0 e' size' v' n' xs') (hg : v'.ownBlock = some g) (he : e' ≠ e) : ¬ v.ownBlock = some g := by
  rcases h'.2 with ⟨h2, _⟩ | ⟨g', cap', cur', h2, _, hg', _⟩
  · rw [h2] at hg; cases hg
  · rw [h2] at hg
    have : g' = g := Option.some.inj hg
    subst this
    exact own_ne h hg' he

/-- What closing a paragraph leaves: the parent holds it. -/
structure ParaClosed (w w' : World) (bp g n cap nt ni : Nat) (p : PSt) (l lt li : List Value) (c inner : Value) (sp ep sl el : Int) (s : ByteArray) (v : Value) : Prop where
  mods : Mods (fun k => k = bp ∨ k = g ∨ p.texts.ownBlock = some k ∨ inner.ownBlock = some k) w w'
  ex : ∃ pk tb tg tc ig ic, v = .iface 136 (.pointer (some ⟨pk, 0, none⟩)) ∧ w.heap.size ≤ pk ∧ w.heap.size ≤ tb ∧
    Blk w' pk #[.int .i64 sl, .int .i64 el, .pointer (some ⟨tb, 0, none⟩)] 138 ∧
    Blk w' tb #[.int .i64 sl, .int .i64 el, .slice none 0 0, .string s] 135 ∧
    PsAt w' bp { p with texts := .slice (some ⟨tg, 0, none⟩) (nt + 1) tc, stack := .slice (some ⟨g, 0, none⟩) (n + 1) cap } ∧
    w'.ownsRow 0 131 1 (.slice (some ⟨tg, 0, none⟩) (nt + 1) tc) (nt + 1) (lt ++ [.pointer (some ⟨tb, 0, none⟩)]) ∧
    w'.ownsRow 0 239 4 (.slice (some ⟨g, 0, none⟩) (n + 1) cap) (n + 1) (l ++ [c, .slice (some ⟨ig, 0, none⟩) (ni + 1) ic, .int .i64 sp, .int .i64 ep]) ∧
    w'.ownsRow 0 91 1 (.slice (some ⟨ig, 0, none⟩) (ni + 1) ic) (ni + 1) (li ++ [.iface 136 (.pointer (some ⟨pk, 0, none⟩))])

theorem row_in {w : World} {g cap n j : Nat} {l : List Value} {c x y u : Value} {v : Value} (hlen : l.length = n * 4) (hj : j = n * 4 + 1)
    (h : w.ownsRow 0 239 4 (.slice (some ⟨g, 0, none⟩) (n + 1) cap) (n + 1) (l ++ [c, u, x, y])) :
    (w.setCell ⟨g, j, none⟩ v).ownsRow 0 239 4 (.slice (some ⟨g, 0, none⟩) (n + 1) cap) (n + 1) (l ++ [c, v, x, y]) := by
  subst hj
  have h1 := ownsRow_set h (n * 4 + 1) v (by omega)
  have e : (l ++ [c, u, x, y]).set (n * 4 + 1) v = l ++ [c, v, x, y] := by
    rw [← hlen]
    simp
  rw [e] at h1
  exact h1

set_option maxRecDepth 100000 in
set_option maxHeartbeats 4000000 in
theorem closePara (bp bb g n cap nt ni : Nat) (p : PSt) (l lt li : List Value) (c inner i tv : Value) (sp ep sl el : Int) (nl : Nat) (s : ByteArray) (w : World) (hp : PsAt w bp p) (hst : p.stack = .slice (some ⟨g, 0, none⟩) (n + 1 + 1) cap) (hn : n ≤ 100)
    (hown : w.ownsRow 0 239 4 (.slice (some ⟨g, 0, none⟩) (n + 1 + 1) cap) (n + 1 + 1) ((l ++ [c, inner, .int .i64 sp, .int .i64 ep]) ++ [.iface 287 (.pointer (some ⟨bb, 0, none⟩)), i, .int .i64 sl, .int .i64 el]))
    (hin : w.ownsRow 0 91 1 inner ni li) (hni : ni ≤ 100000)
    (hB : Blk w bb #[tv, .pointer none] 291) (htv : ∃ a cp, tv = .slice a nl cp) (hnl : nl ≤ 100000)
    (htx : w.ownsRow 0 131 1 p.texts nt lt) (hnt : nt ≤ 100000)
    (hJ : ∀ W, Same w W → Calls Tryz.prog 209 #[tv, .string ⟨#[10]⟩] W fun e W' => e = .returned (.string s) ∧ Same W W')
    (h0 : 0 < s.size) (hs : s.size ≤ 1000000) (h1 : s[0] ≠ 32) (h2 : s[0] ≠ 9) (h3 : s[0] ≠ 10) (h4 : s[0] ≠ 91) (hsl : 0 ≤ sl) (hsl2 : sl ≤ 1000000) :
    Calls Tryz.prog 123 #[.pointer (some ⟨bp, 0, none⟩)] w fun e w' => ∃ v, e = .returned v ∧ ParaClosed w w' bp g n cap nt ni p l lt li c inner sp ep sl (sl + nl - 1) s v := by
  obtain ⟨c0, c1, c2, c3, cf, cl⟩ := row_cells hown
  have k4 := hp.stack
  rw [hst] at k4
  have hbl := hp.lt
  have w1 : IntKind.i64.wrap ((n : Int) + 1) = (n : Int) + 1 := IntWalk.i64_in _ (by omega)
  have w2 : (0 : Int) ≤ (n : Int) + 1 := by omega
  have w3 : (n : Int) + 1 < (n : Int) + 1 + 1 := by omega
  have w4 : ((n : Int) + 1).toNat = n + 1 := by omega
  have hE := eql_builder_nil
  have hM := m_build_para
  clear cf
  go_enter Tryz.func123, Tryz.ntmps123
  go_wp2_with fail
  go_quiet (fail)
  go_wp2_with fail
  have hD : Same w (w.drewN nq) := (Mods.refl _ w).drewN nq
  generalize hW : (w.drewN nq : World) = W at *
  clear hW
  have hpW := hp.same hD
  have hownW := ownsRow_keep hown hD (fun _ _ x => x)
  have hinW := ownsRow_keep hin hD (fun _ _ x => x)
  have htxW := ownsRow_keep htx hD (fun _ _ x => x)
  refine (paraBuild_any bp bb g (n + 1) cap nt p _ lt _ i tv sl el nl [] s W hpW hst (by omega) hownW (Same.blk hD hB) htv hnl htxW hnt (fun X hX => hJ X (hD.trans hX)) h0 hs h1 h2 h3 h4 hsl hsl2).mono ?_
  rintro e wA ⟨v, rfl, hPB⟩
  obtain ⟨pk, tb, g2, cap2, rfl, hpk, htb, hP, hT, hpA, htxA⟩ := hPB.ex
  have hownA := row_texts hpW htxW hPB.mods hownW (by decide) (by decide)
  have hinA := row_texts hpW htxW hPB.mods hinW (by decide) (by decide)
  clear hJ c0 c1 c2 c3 k4 hbl hpW hinW htxW
  have k4 := hpA.stack
  have f4 := hpA.fr 4
  have hbl := hpA.lt
  have hL := as_List_no 136
  have hL2 := fun X v w => hL X v w (by decide)
  rw [hst] at k4
  have hcap : n + 1 + 1 ≤ cap := by
    rcases hownA.2 with ⟨h, _⟩ | ⟨_, _, _, h, _, _, hc, _⟩
    · cases h
    · cases h; exact hc
  have w5 : (n : Int) + 1 ≤ cap := by omega
  have w6 : IntKind.i64.wrap (n : Int) = n := IntWalk.i64_in _ (by omega)
  have w7 : (0 : Int) < (n : Int) + 1 := by omega
  have w8 : (n : Int) < (n : Int) + 1 := by omega
  have w9 : (0 : Int) ≤ (n : Int) := by omega
  clear hE hM
  go_wp2_with fail
  go_region
  go_wp2_with fail
  generalize hX : ((wA.setCell ⟨bp, 4, none⟩ (.slice (some ⟨g, 0, none⟩) (n + 1) cap)).drew : World) = X
  have hmX : Mods (fun k => k = bp) wA X := by subst hX; exact ((Mods.refl (fun k => k = bp) wA).setCell (p := ⟨bp, 4, none⟩) (fun _ => rfl) _).drew
  have hpX : PsAt X bp { p with texts := .slice (some ⟨g2, 0, none⟩) (nt + 1) cap2, stack := .slice (some ⟨g, 0, none⟩) (n + 1) cap } := by
    subst hX
    exact PsAt.drew (hpA.set 4 _ _ rfl (by decide))
  clear hX
  obtain ⟨tail, htl⟩ := id hpX
  have hne : ∀ {b : Nat} {cs : Array Value} {T : Nat}, Blk X b cs T → T ≠ 167 → b ≠ bp := fun h hT => h.ne_of_type htl hT
  have hneA : ∀ {e size m : Nat} {v : Value} {xs : List Value}, wA.ownsRow 0 e size v m xs → e ≠ 167 → ∀ b, v.ownBlock = some b → ¬ (b = bp) := by
    intro e size m v xs h he b hb
    obtain ⟨tailA, htlA⟩ := id hpA
    rcases h.2 with ⟨h2, _⟩ | ⟨g', cap', cur', h2, _, hg', _⟩
    · rw [h2] at hb; cases hb
    · rw [h2] at hb
      have : g' = b := Option.some.inj hb
      subst this
      exact Blk.ne_of_type (T := e) hg' htlA he
  have hownX := ownsRow_keep hownA hmX (hneA hownA (by decide))
  have htxX := ownsRow_keep htxA hmX (hneA htxA (by decide))
  have hinX := ownsRow_keep hinA hmX (hneA hinA (by decide))
  have hPX := hP.keep hmX (fun h => by obtain ⟨tailA, htlA⟩ := id hpA; exact hP.ne_of_type htlA (by decide) h)
  have hTX := hT.keep hmX (fun h => by obtain ⟨tailA, htlA⟩ := id hpA; exact hT.ne_of_type htlA (by decide) h)
  have hownP := ownsRow_pop hownX rfl
  obtain ⟨d0, d1, d2, d3, df, dl⟩ := row_cells hownP
  clear k4 f4 hbl
  have k4 := hpX.stack
  have hbl := hpX.lt
  go_quiet (fail)
  go_wp2_with (at_builtin; refine ap_blk rfl (.tmp 106) (.tmp 108) rfl inner ni li rfl ((ownsRow_keep hinX ((Mods.refl (fun _ => False) X).drewN nq) (fun _ _ x => x)).alloc _) X.heap.size 1 _ (.pointer (some ⟨pk, 0, none⟩)) rfl ((Blk.newAt _ _ rfl).cell 0) (by omega) ?_)
  intro ig ic wB hinB hgrow hloc
  generalize hZ : ((X.drewN nq).alloc _ : World) = Z at *
  have hmZ : Same X Z := by subst hZ; exact ((Mods.refl _ X).drewN nq).alloc _
  clear hZ
  have hmB := grown_mods hgrow
  have hpB := (hpX.same hmZ).keep hmB (own_ne_ps (ownsRow_keep hinX hmZ (fun _ _ x => x)) (hpX.same hmZ) (by decide))
  have hinZ := ownsRow_keep hinX hmZ (fun _ _ x => x)
  have htxB := ownsRow_keep (ownsRow_keep htxX hmZ (fun _ _ x => x)) hmB (fun k hk => own_ne_row hinZ (ownsRow_keep htxX hmZ (fun _ _ x => x)) hk (by decide))
  have hownB := ownsRow_keep (ownsRow_keep hownP hmZ (fun _ _ x => x)) hmB (fun k hk => own_ne_row hinZ (ownsRow_keep hownP hmZ (fun _ _ x => x)) hk (by decide))
  have hPB' := (Same.blk hmZ hPX).keep hmB (own_ne hinZ (Same.blk hmZ hPX) (by decide))
  have hTB' := (Same.blk hmZ hTX).keep hmB (own_ne hinZ (Same.blk hmZ hTX) (by decide))
  obtain ⟨q0, q1, q2, q3, qf, ql⟩ := row_cells hownB
  have qf1 := qf (n * 4 + 1)
  clear qf df d0 d1 d2 d3
  go_wp2
  go_ret
  have hgbp : g ≠ bp := fun h => own_ne_ps hownB hpB (by decide) (by rw [h]; rfl)
  have hgpk : pk ≠ g := fun h => own_ne hownB hPB' (by decide) (by rw [h]; rfl)
  have hgtb : tb ≠ g := fun h => own_ne hownB hTB' (by decide) (by rw [h]; rfl)
  have hmF : Mods (fun k => k = g) wB (wB.setCell ⟨g, n * 4 + 1, none⟩ (.slice (some ⟨ig, 0, none⟩) (ni + 1) ic)) := (Mods.refl (fun k => k = g) wB).setCell (p := ⟨g, n * 4 + 1, none⟩) (fun _ => rfl) _
  have hlen : l.length = n * 4 := by have := hownB.1; simp at this; omega
  refine ⟨_, rfl, ?_, pk, tb, g2, cap2, ig, ic, rfl, ?_, ?_, hPB'.keep1 hmF hgpk, hTB'.keep1 hmF hgtb, hpB.set_other (a := ⟨g, n * 4 + 1, none⟩) hgbp _, ?_, row_in hlen rfl hownB, ?_⟩
  · have m1 : Mods (fun k => k = bp ∨ k = g ∨ p.texts.ownBlock = some k ∨ inner.ownBlock = some k) w wA := (hD.mono (fun _ _ h => absurd h (fun x => x))).then hPB.mods (fun _ _ h => h.elim Or.inl (fun h => Or.inr (Or.inr (Or.inl h))))
    have m2 := m1.then hmX (fun _ _ h => Or.inl h)
    have m3 := m2.then hmZ (fun _ _ h => absurd h (fun x => x))
    have m4 := m3.then hmB (fun _ _ h => Or.inr (Or.inr (Or.inr h)))
    exact m4.then hmF (fun _ _ h => Or.inr (Or.inl h))
  · have := hD.size; omega
  · have := hD.size; omega
  · exact ownsRow_keep htxB hmF (fun k hk he => own_ne_row htxB hownB (g := g) rfl (by decide) (by rw [← he]; exact hk))
  · exact ownsRow_keep hinB hmF (fun k hk he => own_ne_row hinB hownB (g := g) rfl (by decide) (by rw [← he]; exact hk))
end Go.Proofs.YtmmopoofheblbaaGreatDoor

/- The document is built and closed; the stack is trimmed to nothing. -/
namespace Go.Proofs.YtmmopoofheblbaaGreatDoor
open Go Go.RowKit Go.Proofs


theorem m_build_root0 (k : Nat) (a : Option Addr) (w : World) : (method (k + 1) 172 (.pointer a) "pub-paratext/pub/rscmarkdown.build").run Tryz.prog w = .ok (342, .pointer a) w := by kernel_rfl
theorem m_pos0 (k : Nat) (a : Addr) (w : World) : (method (k + 1) 160 (.pointer (some a)) "pub-paratext/pub/rscmarkdown.pos").run Tryz.prog w = .ok (428, .pointer (some a)) w := m_pos k a w
theorem as_ps_is (X : Nat) (v : Value) (w : World) : (Instr.typeAssert (.iface 160 v) X 160 false).run Tryz.prog w = .ok v w := by kernel_rfl
theorem as_doc_yes (X : Nat) (v : Value) (w : World) : (Instr.typeAssert (.iface 68 v) X 68 false).run Tryz.prog w = .ok v w := by kernel_rfl
theorem as_List_no1 (X : Nat) (v : Value) (w : World) : (Instr.typeAssert (.iface 68 v) X 123 true).run Tryz.prog w = .ok (.tuple #[.pointer none, .bool false]) w := as_List_no _ _ _ _ (by decide)

set_option maxHeartbeats 2000000 in
theorem rootBuild_any (bp g n cap : Nat) (p : PSt) (l : List Value) (c : Value) (a : Option Addr) (ni ic : Nat) (ml : Option Nat) (s e : Int) (q : Value) (w : World) (hp : PsAt w bp p) (hst : p.stack = .slice (some ⟨g, 0, none⟩) (n + 1) cap) (hn : n ≤ 1000)
    (hown : w.ownsRow 0 239 4 (.slice (some ⟨g, 0, none⟩) (n + 1) cap) (n + 1) (l ++ [c, .slice a ni ic, .int .i64 s, .int .i64 e])) (hl : p.links = .map ml) :
    Calls Tryz.prog 342 #[q, .iface 160 (.pointer (some ⟨bp, 0, none⟩))] w fun e' w' => ∃ rk, e' = .returned (.iface 68 (.pointer (some ⟨rk, 0, none⟩))) ∧ w.heap.size ≤ rk ∧ Same w w' ∧
      Blk w' rk #[.int .i64 s, .int .i64 e, .slice a ni ic, .map ml] 111 := by
  have HP : ∀ W, Same w W → Calls Tryz.prog 428 #[.pointer (some ⟨bp, 0, none⟩)] W fun e' W' => e' = .returned (.agg #[.int .i64 s, .int .i64 e]) ∧ Same w W' ∧ W'.cell? ⟨bp, 2, none⟩ = some (.map ml) := fun W hW =>
    (pos_any bp g n cap p l c (.slice a ni ic) s e W (hp.same hW) hst hn (ownsRow_keep hown hW (fun _ _ x => x))).mono fun _ _ h => ⟨h.1, hW.trans h.2, (hp.same (hW.trans h.2)).links.trans (by rw [hl])⟩
  have HB : ∀ W, Same w W → Calls Tryz.prog 425 #[.pointer (some ⟨bp, 0, none⟩)] W fun e' W' => e' = .returned (.slice a ni ic) ∧ Same w W' ∧ W'.cell? ⟨bp, 2, none⟩ = some (.map ml) := fun W hW =>
    (blocks_any bp g n cap p l c (.slice a ni ic) s e W (hp.same hW) hst hn (ownsRow_keep hown hW (fun _ _ x => x))).mono fun _ _ h => by
      obtain ⟨h1, k, hk⟩ := h
      subst hk
      exact ⟨h1, hW.drewN k, (hp.same (hW.drewN k)).links.trans (by rw [hl])⟩
  have HL := hp.links
  rw [hl] at HL
  have M1 := m_pos0
  have M2 := m_blocks
  have M3 := as_ps_is
  go_enter Tryz.func342, Tryz.ntmps342
  go_wp2_with fail
  have hS0 : Same w w := Mods.refl _ w
  go_region_with (first
    | (go_at_call 428; refine (HP _ (by repeat (first | assumption | apply Mods.drew | apply Mods.drewN | apply Mods.alloc))).mono ?_; rintro e1 w1 ⟨rfl, hS1, HL1⟩)
    | (go_at_call 425; refine (HB _ (by repeat (first | assumption | apply Mods.drew | apply Mods.drewN | apply Mods.alloc))).mono ?_; rintro e2 w2 ⟨rfl, hS2, HL2⟩))
  all_goals
    go_wp2
    go_ret
    exact ⟨_, rfl, hS2.size, hS2.alloc _, Blk.newAt _ _ rfl⟩

end Go.Proofs.YtmmopoofheblbaaGreatDoor

/- The document is closed; the stack is trimmed to nothing. -/
namespace Go.Proofs.YtmmopoofheblbaaGreatDoor
open Go Go.RowKit Go.Proofs

/-- What closing the document leaves. -/
structure RootClosed (w w' : World) (bp g n cap : Nat) (p : PSt) (l : List Value) (a : Option Addr) (ni ic : Nat) (ml : Option Nat) (s e : Int) : Prop where
  mods : Mods (fun k => k = bp) w w'
  ex : ∃ rk, w.heap.size ≤ rk ∧ Blk w' rk #[.int .i64 s, .int .i64 e, .slice a ni ic, .map ml] 111 ∧
    PsAt w' bp { p with stack := .slice (some ⟨g, 0, none⟩) 0 cap, root := .pointer (some ⟨rk, 0, none⟩) }

set_option maxRecDepth 100000 in
set_option maxHeartbeats 4000000 in
theorem closeRoot (bp g cap : Nat) (p : PSt) (v a : Option Addr) (ni ic : Nat) (ml : Option Nat) (s e : Int) (w : World) (hp : PsAt w bp p) (hst : p.stack = .slice (some ⟨g, 0, none⟩) 1 cap)
    (hown : w.ownsRow 0 239 4 (.slice (some ⟨g, 0, none⟩) 1 cap) 1 [.iface 172 (.pointer v), .slice a ni ic, .int .i64 s, .int .i64 e]) (hl : p.links = .map ml) :
    Calls Tryz.prog 123 #[.pointer (some ⟨bp, 0, none⟩)] w fun e' w' => ∃ u, e' = .returned u ∧ RootClosed w w' bp g 0 cap p [] a ni ic ml s e := by
  obtain ⟨c0, c1, c2, c3, cf, cl⟩ := row_cells (n := 0) (l := []) hown
  have k4 := hp.stack
  rw [hst] at k4
  have hbl := hp.lt
  have hE := eql_builder_nil
  have hM := m_build_root0
  have w1 : IntKind.i64.wrap (0 : Int) = 0 := rfl
  clear cf
  go_enter Tryz.func123, Tryz.ntmps123
  go_wp2_with fail
  go_quiet (fail)
  go_wp2_with fail
  have hD : Same w (w.drewN nq) := (Mods.refl _ w).drewN nq
  refine (rootBuild_any bp g 0 cap p [] _ a ni ic ml s e _ (w.drewN nq) (hp.same hD) hst (by omega) (ownsRow_keep hown hD (fun _ _ x => x)) hl).mono ?_
  rintro e' wA ⟨rk, rfl, hrk, hmA, hR⟩
  have hpA := hp.same (hD.trans hmA)
  have hsz := hD.size
  have hownA := ownsRow_keep hown (hD.trans hmA) (fun _ _ x => x)
  have hcap : 1 ≤ cap := by
    rcases hownA.2 with ⟨h, _⟩ | ⟨_, _, _, h, _, _, hc, _⟩
    · cases h
    · cases h; exact hc
  clear c0 c1 c2 c3 k4 hbl hE hM
  have k4 := hpA.stack
  have f4 := hpA.fr 4
  have f1 := hpA.fr 1
  have k1 := hpA.root
  have hbl := hpA.lt
  have hL := as_List_no1
  have hDoc := as_doc_yes
  have w5 : (0 : Int) ≤ (cap : Int) := by omega
  rw [hst] at k4
  go_wp2_with fail
  go_region
  go_wp2_with fail
  go_ret
  have hne : rk ≠ bp := by
    obtain ⟨tail, htl⟩ := id hpA
    exact hR.ne_of_type htl (by decide)
  have hm1 : Mods (fun k => k = bp) w wA := (hD.trans hmA).mono (fun _ _ h => absurd h (fun x => x))
  have h1 := PsAt.drew (hpA.set 4 (.slice (some ⟨g, 0, none⟩) 0 cap) { p with stack := .slice (some ⟨g, 0, none⟩) 0 cap } rfl (by decide))
  refine ⟨_, rfl, ?_, rk, by omega, ?_, h1.set 1 _ _ rfl (by decide)⟩
  · exact (((hm1.setCell (p := ⟨bp, 4, none⟩) (fun _ => rfl) _).drew).setCell (p := ⟨bp, 1, none⟩) (fun _ => rfl) _)
  · exact Blk.set_other (a := ⟨bp, 1, none⟩) (Blk.drew (Blk.set_other (a := ⟨bp, 4, none⟩) hR (Ne.symm hne) _)) (Ne.symm hne) _

set_option maxHeartbeats 2000000 in
/-- trimStack closes as many blocks as stand above the depth; P k: k blocks are still to be closed. -/
theorem trimStack_gen (bp d : Nat) (P : Nat → World → Prop) (_hd : d ≤ 1000)
    (h0 : ∀ k w, P k w → k ≤ 1000 ∧ ∃ a cap, w.cell? ⟨bp, 4, none⟩ = some (.slice a (d + k) cap))
    (hc : ∀ k w, P (k + 1) w → Calls Tryz.prog 123 #[.pointer (some ⟨bp, 0, none⟩)] w fun e w' => ∃ u, e = .returned u ∧ P k w')
    (n : Nat) (w : World) (hP : P n w) :
    Calls Tryz.prog 90 #[.pointer (some ⟨bp, 0, none⟩), .int .i64 d] w fun e w' => e = .returned (.tuple #[]) ∧ P 0 w' := by
  obtain ⟨hn, a, cap, k4⟩ := h0 n w hP
  have w1 : ¬ ((d : Int) + n < d) := by omega
  go_enter Tryz.func90, Tryz.ntmps90
  go_wp2_with fail
  go_loopg [] n (fun k wr => P k wr)
  case atStart => exact hP
  case round =>
    clear k4 w1
    obtain ⟨hn', a', cap', k4'⟩ := h0 _ _ hrel
    cases gk with
    | zero =>
      have w2 : ¬ ((d : Int) < d) := by omega
      rw [Nat.add_zero] at k4'
      clear h0 hc
      go_wp2_with fail
      go_end0
      exact ⟨rfl, hrel⟩
    | succ k =>
      have w2 : (d : Int) < d + (k + 1) := by omega
      have hc' := hc k _ hrel
      clear h0 hc
      go_wp2_with fail
      refine hc'.mono ?_
      rintro e w2 ⟨u, rfl, hP2⟩
      go_wp2_with fail
      go_roundg k
      case measure => omega
      case rel => exact hP2
end Go.Proofs.YtmmopoofheblbaaGreatDoor

/- zzIndex, zzContains for one byte; strings.Join of one string. -/
namespace Go.Proofs.YtmmopoofheblbaaGreatDoor
open Go Go.RowKit Go.Proofs

/-- The first place from i on where c stands; the length when there is none. -/
def fst1 (s : ByteArray) (c : UInt8) (i : Nat) : Nat := if h : i < s.size then (if s[i] = c then i else fst1 s c (i + 1)) else s.size
termination_by s.size - i

/-- The answer of zzIndex. -/
def idx1 (s : ByteArray) (c : UInt8) : Int := if fst1 s c 0 < s.size then (fst1 s c 0 : Nat) else -1

theorem fst1_le (s : ByteArray) (c : UInt8) (i : Nat) (hi : i ≤ s.size) : i ≤ fst1 s c i ∧ fst1 s c i ≤ s.size := by
  rw [fst1]
  split
  · split
    · omega
    · have := fst1_le s c (i + 1) (by omega); omega
  · omega
termination_by s.size - i

theorem fst1_none (s : ByteArray) (c : UInt8) (h : ∀ i (hi : i < s.size), s[i] ≠ c) (i : Nat) (_hi : i ≤ s.size) : fst1 s c i = s.size := by
  rw [fst1]
  split
  · rename_i hlt
    rw [if_neg (h i hlt)]
    exact fst1_none s c h (i + 1) (by omega)
  · rfl
termination_by s.size - i

theorem idx1_none {s : ByteArray} {c : UInt8} (h : ∀ i (hi : i < s.size), s[i] ≠ c) : idx1 s c = -1 := by
  unfold idx1
  rw [fst1_none s c h 0 (Nat.zero_le _), if_neg (Nat.lt_irrefl _)]

theorem ext1 (s : ByteArray) (k : Nat) (hk : k < s.size) : s.extract k (k + 1) = ⟨#[s[k]]⟩ := by
  have h0 : (⟨#[s[k]]⟩ : ByteArray).size = 1 := rfl
  have h1 : (s.extract k (k + 1)).size = 1 := by rw [ByteArray.size_extract]; omega
  apply ByteArray.ext_getElem
  · rw [h0, h1]
  · intro i hi1 hi2
    have : i = 0 := by omega
    subst this
    rw [ByteArray.getElem_extract]
    rfl

set_option maxHeartbeats 1000000 in
theorem zzIndex_any (s : ByteArray) (c : UInt8) (w : World) (hs : s.size ≤ 1000000) :
    Calls Tryz.prog 88 #[.string s, .string ⟨#[c]⟩] w fun e w' => e = .returned (.int .i64 (idx1 s c)) ∧ w = w' := by
  go_enter Tryz.func88, Tryz.ntmps88
  go_wp2
  go_loop [5] (fun i => ∃ k : Nat, i = .int .i64 k ∧ k ≤ s.size ∧ fst1 s c k = fst1 s c 0) (fun i => s.size - (intOf i).toNat)
  case atStart => exact ⟨0, rfl, Nat.zero_le _, rfl⟩
  case round =>
    obtain ⟨k, rfl, hk, hw⟩ := hrel
    have HW := Lib.hid hw
    clear hw
    have w1 : IntKind.i64.wrap ((k : Int) + 1) = (k : Int) + 1 := IntWalk.i64_in _ (by omega)
    have hz : (⟨#[c]⟩ : ByteArray).size = 1 := rfl
    by_cases hlt : k < s.size
    · have hle : (k : Int) + 1 ≤ s.size := by omega
      have h0 : (0 : Int) ≤ k := by omega
      have h2 : (k : Int) ≤ k + 1 := by omega
      have h3 : ((k : Int) + 1).toNat = k + 1 := by omega
      have he := ext1 s k hlt
      have hun : fst1 s c k = if s[k] = c then k else fst1 s c (k + 1) := by rw [fst1, dif_pos hlt]
      have HU := Lib.hid hun
      clear hun
      by_cases hc : s[k] = c
      · have hcb : (s[k] == c) = true := by simpa using hc
        have HC := Lib.hid hc
        clear hc
        go_wp2_with fail
        go_ret
        have : fst1 s c 0 = k := by rw [← HW.out, HU.out, if_pos HC.out]
        unfold idx1
        rw [this, if_pos hlt]
        exact ⟨rfl, rfl⟩
      · have hcb : (s[k] == c) = false := by simpa using hc
        have HC := Lib.hid hc
        clear hc
        go_wp2_with fail
        refine ⟨⟨k + 1, by simp, by omega, ?_⟩, ?_⟩
        · rw [← HW.out, HU.out, if_neg HC.out]
        · simp only [intOf]; omega
    · have hle : ¬ ((k : Int) + 1 ≤ s.size) := by omega
      go_wp2_with fail
      go_ret
      have hk' : k = s.size := by omega
      have h0 : fst1 s c 0 = s.size := by rw [← HW.out, hk', fst1, dif_neg (Nat.lt_irrefl _)]
      unfold idx1
      rw [h0, if_neg (Nat.lt_irrefl _)]
      exact ⟨rfl, rfl⟩

theorem zzContains_any (s : ByteArray) (c : UInt8) (w : World) (hs : s.size ≤ 1000000) :
    Calls Tryz.prog 85 #[.string s, .string ⟨#[c]⟩] w fun e w' => e = .returned (.bool (decide (0 ≤ idx1 s c))) ∧ w = w' := by
  go_enter Tryz.func85, Tryz.ntmps85
  go_wp2_with fail
  refine (zzIndex_any s c w hs).mono ?_
  rintro e w' ⟨rfl, rfl⟩
  go_wp2
  go_ret
  exact ⟨rfl, rfl⟩

/-- Join of one string. -/
theorem join_one (g cap : Nat) (s sep : ByteArray) (w : World) (h : w.cell? ⟨g, 0, none⟩ = some (.string s)) :
    Calls Tryz.prog 209 #[.slice (some ⟨g, 0, none⟩) 1 cap, .string sep] w fun e w' => e = .returned (.string s) ∧ w = w' := by
  go_enter Tryz.func209, Tryz.ntmps209
  go_wp2_with fail
  try rw [Exit.noGoto_ret]
  go_ret
  exact ⟨rfl, rfl⟩
end Go.Proofs.YtmmopoofheblbaaGreatDoor

/- emit, skip, parseEscape: the pieces of a line. -/
namespace Go.Proofs.YtmmopoofheblbaaGreatDoor
open Go Go.RowKit Go.Proofs

theorem st1 {P : Program} {w : World} {ops : Array Oper} {o : Oper} {a : Act} {K : Act → World → Prop} {Q : Exit → Act → World → Prop} {E : Prop} (hgd : o.guard = none) (s x : Operand) (t e size bytes : Nat)
    (ho : o.op = .call { callee := .builtin .append, args := #[s, x], argTypes := #[t, t] }) (z : Value)
    (ht : P.underlying t = some (.slice e)) (hi : (P.info? e).map (fun i => (i.zero, i.size, i.bytes)) = some (some z, size, bytes)) (hzs : z.cells.size = size) (hsz : 0 < size) (hby : bytes ≤ 100)
    (v : Value) (n : Nat) (xs : List Value) (hs : a.eval s = v) (hown : w.ownsRow 0 e size v n xs)
    (b c : Nat) (news : List Value) (hx : a.eval x = .slice (some ⟨b, 0, none⟩) 1 c) (hl : news.length = size) (hnews : ∀ j u, news[j]? = some u → w.cell? ⟨b, j, none⟩ = some u)
    (h1 : ∀ u ∈ news, u.oneCell' = true) (hn : n ≤ 1000000)
    (h : ∀ g cap w', w'.ownsRow 0 e size (.slice (some ⟨g, 0, none⟩) (n + 1) cap) (n + 1) (xs ++ news) → w.grownBy w' v.ownBlock → (v.ownBlock = some g ∨ g = w.heap.size) → K (a.put o.dst (.slice (some ⟨g, 0, none⟩) (n + 1) cap)) w') :
    if Region.wanted o (yielded ops a.tmps) = true then Oper.wp P o a w K Q else E := by
  obtain ⟨i0, hi0, hz⟩ := Option.map_eq_some_iff.1 hi
  simp only [Prod.mk.injEq] at hz
  obtain ⟨hz0, hz1, hz2⟩ := hz
  refine step_append_lies w hgd s x t ho 0 e i0 z size bytes ht hi0 hz0 hz1 hz2 hzs hsz v n xs hs hown ⟨b, 0, none⟩ 1 c news hx (by omega) ?_ h1 (by omega) (by unfold maxLen; omega) ?_ (Nat.zero_le _) _ rfl (fun g cap w' h2 h3 h4 _ => h g cap w' h2 h3 h4)
  · intro j u hu
    have := hnews j u hu
    simpa [Addr.add_lit] using this
  · have : (n + 1) * bytes ≤ 1000001 * 100 := Nat.mul_le_mul (by omega) hby
    omega

theorem st_inl {w : World} {ops : Array Oper} {o : Oper} {a : Act} {K : Act → World → Prop} {Q : Exit → Act → World → Prop} {E : Prop} (hgd : o.guard = none) (s x : Operand) (ho : o.op = .call { callee := .builtin .append, args := #[s, x], argTypes := #[84, 84] })
    (v : Value) (n : Nat) (xs : List Value) (hs : a.eval s = v) (hown : w.ownsRow 0 157 1 v n xs)
    (b c T : Nat) (u : Value) (hx : a.eval x = .slice (some ⟨b, 0, none⟩) 1 c) (hu : w.cell? ⟨b, 0, none⟩ = some (.iface T u)) (hn : n ≤ 1000000)
    (h : ∀ g cap w', w'.ownsRow 0 157 1 (.slice (some ⟨g, 0, none⟩) (n + 1) cap) (n + 1) (xs ++ [.iface T u]) → w.grownBy w' v.ownBlock → (v.ownBlock = some g ∨ g = w.heap.size) → K (a.put o.dst (.slice (some ⟨g, 0, none⟩) (n + 1) cap)) w') :
    if Region.wanted o (yielded ops a.tmps) = true then Oper.wp Tryz.prog o a w K Q else E :=
  st1 hgd s x 84 157 1 16 ho .nilIface Tryz.underlying84 (by kernel_rfl) rfl (by decide) (by decide) v n xs hs hown b c [.iface T u] hx rfl
    (fun j y hy => by cases j with
      | zero => simp at hy; subst hy; exact hu
      | succ j => simp at hy) (fun y hy => by simp at hy; subst hy; rfl) hn h

/-- What emit leaves where there is something to emit. -/
structure Emitted (w w' : World) (bp : Nat) (p : PSt) (n : Nat) (xs : List Value) (i : Nat) (s : ByteArray) : Prop where
  mods : Mods (fun k => k = bp ∨ p.list.ownBlock = some k) w w'
  ex : ∃ g cap b, PsAt w' bp { p with list := .slice (some ⟨g, 0, none⟩) (n + 1) cap, emitted := i } ∧
    w'.ownsRow 0 157 1 (.slice (some ⟨g, 0, none⟩) (n + 1) cap) (n + 1) (xs ++ [.iface 224 (.pointer (some ⟨b, 0, none⟩))]) ∧
    Blk w' b #[.string s] 221 ∧ w.heap.size ≤ b ∧ (p.list.ownBlock = some g ∨ w.heap.size ≤ g)

theorem emit_none (bp : Nat) (p : PSt) (e i : Int) (w : World) (hp : PsAt w bp p) (he : p.emitted = e) (hi : ¬ e < i) :
    Calls Tryz.prog 113 #[.pointer (some ⟨bp, 0, none⟩), .int .i64 i] w fun e' w' => e' = .returned (.tuple #[]) ∧ w = w' := by
  have k8 := hp.emitted
  rw [he] at k8
  go_enter Tryz.func113, Tryz.ntmps113
  go_wp2
  go_end0
  exact ⟨rfl, rfl⟩

theorem skip_any (bp : Nat) (p : PSt) (i : Int) (w : World) (hp : PsAt w bp p) :
    Calls Tryz.prog 114 #[.pointer (some ⟨bp, 0, none⟩), .int .i64 i] w fun e' w' => e' = .returned (.tuple #[]) ∧ Mods (fun k => k = bp) w w' ∧ PsAt w' bp { p with emitted := i } := by
  have k8 := hp.emitted
  have f8 := hp.fr 8
  have hl := hp.lt
  go_enter Tryz.func114, Tryz.ntmps114
  go_wp2
  go_end0
  exact ⟨rfl, (Mods.refl (fun k => k = bp) w).setCell (p := ⟨bp, 8, none⟩) (fun _ => rfl) _, hp.set 8 _ _ rfl (by decide)⟩

theorem emit_facts (bp n : Nat) (p : PSt) (xs : List Value) (v : Value) (cs : Array Value) (w w1 : World) {o : Obj} (hp : PsAt w bp p) (hL : p.list = v) (hown : w.ownsRow 0 157 1 v n xs)
    (hgrow : (((w.alloc (.cells cs 221)).alloc o).drew).grownBy w1 v.ownBlock) :
    PsAt w1 bp p ∧ Mods (fun k => k = bp ∨ v.ownBlock = some k) w w1 ∧ Blk w1 w.heap.size cs 221 ∧
      w1.cell? ⟨bp, 9, none⟩ = some v ∧ w1.cell? ⟨bp, 8, none⟩ = some (.int .i64 p.emitted) ∧ w1.frozen? ⟨bp, 9, none⟩ = false ∧ w1.frozen? ⟨bp, 8, none⟩ = false ∧ bp < w1.heap.size := by
  have hS : Same w (((w.alloc (.cells cs 221)).alloc o).drew) := (((Mods.refl (fun _ => False) w).alloc _).alloc o).drew
  have hnb : v.ownBlock ≠ some bp := fun h => own_ne_ps hown hp (by decide) h
  have hmA := grown_mods hgrow
  have hp1 := (hp.same hS).keep hmA hnb
  refine ⟨hp1, ?_, ?_, by rw [hp1.list, hL], hp1.emitted, hp1.fr 9, hp1.fr 8, hp1.lt⟩
  · exact (hS.mono (S' := fun k => k = bp ∨ v.ownBlock = some k) (fun _ _ h => absurd h (fun x => x))).then hmA (fun _ _ h => Or.inr h)
  · refine (Blk.drew (Blk.alloc (Blk.newAt (w := w) (n := w.heap.size) cs 221 rfl) o)).keep hmA (fun h => ?_)
    have := (hown.lt _ h).2
    omega

theorem Emitted.mk' {w w1 : World} {bp n g cap i : Nat} {p : PSt} {xs : List Value} {v : Value} {s : ByteArray} (hL : p.list = v) (hp1 : PsAt w1 bp p) (hm1 : Mods (fun k => k = bp ∨ v.ownBlock = some k) w w1) (hT : Blk w1 w.heap.size #[.string s] 221)
    (hown1 : w1.ownsRow 0 157 1 (.slice (some ⟨g, 0, none⟩) (n + 1) cap) (n + 1) (xs ++ [.iface 224 (.pointer (some ⟨w.heap.size, 0, none⟩))])) (hloc : v.ownBlock = some g ∨ w.heap.size ≤ g) :
    Emitted w ((w1.setCell ⟨bp, 9, none⟩ (.slice (some ⟨g, 0, none⟩) (n + 1) cap)).setCell ⟨bp, 8, none⟩ (.int .i64 i)) bp p n xs i s := by
  have hm2 : Mods (fun k => k = bp) w1 ((w1.setCell ⟨bp, 9, none⟩ (.slice (some ⟨g, 0, none⟩) (n + 1) cap)).setCell ⟨bp, 8, none⟩ (.int .i64 i)) :=
    ((Mods.refl (fun k => k = bp) w1).setCell (p := ⟨bp, 9, none⟩) (fun _ => rfl) _).setCell (p := ⟨bp, 8, none⟩) (fun _ => rfl) _
  have hne : w.heap.size ≠ bp := by
    obtain ⟨tail, htl⟩ := id hp1
    exact hT.ne_of_type htl (by decide)
  refine ⟨?_, g, cap, w.heap.size, ?_, ?_, hT.keep1 hm2 hne, Nat.le_refl _, by rw [hL]; exact hloc⟩
  · rw [hL]
    exact hm1.then hm2 (fun _ _ h => Or.inl h)
  · exact (hp1.set 9 _ { p with list := .slice (some ⟨g, 0, none⟩) (n + 1) cap } rfl (by decide)).set 8 _ _ rfl (by decide)
  · exact ownsRow_keep hown1 hm2 (fun k hk he => own_ne_ps hown1 hp1 (by decide) (by rw [← he]; exact hk))

set_option maxHeartbeats 4000000 in
theorem emit_some (bp n : Nat) (p : PSt) (xs : List Value) (e i : Nat) (w : World) (hp : PsAt w bp p) (he : p.emitted = e) (hi : e < i) (hs : i ≤ p.s.size) (_hs6 : p.s.size ≤ 1000000)
    (hown : w.ownsRow 0 157 1 p.list n xs) (hn : n ≤ 1000000) :
    Calls Tryz.prog 113 #[.pointer (some ⟨bp, 0, none⟩), .int .i64 i] w fun e' w' => e' = .returned (.tuple #[]) ∧ Emitted w w' bp p n xs i (p.s.extract e i) := by
  have k8 := hp.emitted
  have k7 := hp.s
  have k9 := hp.list
  have f8 := hp.fr 8
  have f9 := hp.fr 9
  have hbl := hp.lt
  rw [he] at k8
  have w1 : (e : Int) < i := by omega
  have w2 : (0 : Int) ≤ e := by omega
  have w3 : (e : Int) ≤ i := by omega
  have w4 : (i : Int) ≤ p.s.size := by omega
  generalize hL : p.list = v at *
  go_enter Tryz.func113, Tryz.ntmps113
  go_wp2_with fail
  have hS : ∀ o o', Same w (((w.alloc o).alloc o').drew) := fun o o' => (((Mods.refl (fun _ => False) w).alloc o).alloc o').drew
  go_region_law (refine st_inl rfl (.tmp 14) (.tmp 28) rfl v n xs rfl (ownsRow_keep hown (hS _ _) (fun _ _ x => x)) (w.heap.size + 1) 1 224 _ rfl ((Blk.drew (Blk.newAt (n := w.heap.size + 1) _ _ (by simp))).cell 0) hn ?_; intro g cap w1 hown1 hgrow hloc; obtain ⟨hp1, hm1, hT, k9', k8', f9', f8', hbl'⟩ := emit_facts bp n p xs v _ w _ hp hL hown hgrow; clear hgrow; have hl2 := hloc.imp (fun h => h) (fun h => Nat.le_trans (hS _ _).size (Nat.le_of_eq h.symm)); clear hloc)
  all_goals go_wp2_with fail
  all_goals go_end0
  all_goals exact ⟨rfl, Emitted.mk' hL hp1 hm1 hT hown1 hl2⟩
end Go.Proofs.YtmmopoofheblbaaGreatDoor
