/- closeBlock where a paragraph is on top; where the document is. -/
import Derived.Test.YtdnlfdppjfjncaaGreatDoorBuild2
namespace Go.Proofs.YtdnlfdppjfjncaaGreatDoor
open Go Go.RowKit Go.Proofs

theorem not_texts {w : World} {bp : Nat} {p : PSt} {nt : Nat} {lt : List Value} (hp : PsAt w bp p) (htx : w.ownsRow 0 105 1 p.texts nt lt) {b : Nat} {cs : Array Value} {T : Nat} (h : Blk w b cs T)
    (h1 : T ≠ 95) (h2 : T ≠ 105) : ¬ (b = bp ∨ p.texts.ownBlock = some b) := by
  intro hh
  rcases hh with hh | hh
  · obtain ⟨tail, htl⟩ := id hp
    exact h.ne_of_type htl h1 hh
  · rcases htx.2 with ⟨hv, _⟩ | ⟨g', cap', cur', hv, _, hg', _⟩
    · rw [hv] at hh; cases hh
    · rw [hv] at hh
      have : g' = b := Option.some.inj hh
      exact h.ne_of_type (T' := 105) hg' h2 this.symm

/-- A row of another type is kept where only the state and the list of texts have changed. -/
theorem row_texts {w w' : World} {bp : Nat} {p : PSt} {nt : Nat} {lt : List Value} (hp : PsAt w bp p) (htx : w.ownsRow 0 105 1 p.texts nt lt) (hm : Mods (fun k => k = bp ∨ p.texts.ownBlock = some k) w w')
    {e size n : Nat} {v : Value} {xs : List Value} (h : w.ownsRow 0 e size v n xs) (h1 : e ≠ 95) (h2 : e ≠ 105) : w'.ownsRow 0 e size v n xs := by
  refine ownsRow_keep h hm (fun g hg => ?_)
  rcases h.2 with ⟨hv, _⟩ | ⟨g', cap', cur', hv, _, hg', _⟩
  · rw [hv] at hg; cases hg
  · rw [hv] at hg
    have : g' = g := Option.some.inj hg
    subst this
    exact not_texts hp htx (T := e) hg' h1 h2

theorem ownsRow_pop {w : World} {e size n g cap : Nat} {xs ys : List Value} (h : w.ownsRow 0 e size (.slice (some ⟨g, 0, none⟩) (n + 1) cap) (n + 1) (xs ++ ys)) (hy : ys.length = size) :
    w.ownsRow 0 e size (.slice (some ⟨g, 0, none⟩) n cap) n xs := by
  obtain ⟨h1, h2⟩ := h
  have hx : xs.length = n * size := by
    rw [List.length_append, hy, Nat.add_mul] at h1
    omega
  refine ⟨hx, .inr ?_⟩
  rcases h2 with ⟨h2, _⟩ | ⟨g', cap', cur, hv, hb, hg, hc, hm, hs, ht⟩
  · cases h2
  · cases hv
    refine ⟨g, cap, cur, rfl, hb, hg, by omega, hm, hs, ?_⟩
    have : (cur.toList.take ((n + 1) * size)).take (n * size) = xs := by
      rw [ht, ← hx]; simp
    rw [← this, List.take_take, Nat.min_eq_left (by rw [Nat.add_mul]; omega)]

theorem eql_builder_nil (T : Nat) (v : Value) (w : World) : (binOp .eql 118 (.iface T v) .nilIface).run Tryz.prog w = .ok (.bool false) w := by kernel_rfl
theorem m_build_para (k : Nat) (a : Addr) (w : World) : (method (k + 1) 162 (.pointer (some a)) "pub-paratext/pub/rscmarkdown.build").run Tryz.prog w = .ok (288, .pointer (some a)) w := by kernel_rfl
theorem m_build_root (k : Nat) (a : Addr) (w : World) : (method (k + 1) 98 (.pointer (some a)) "pub-paratext/pub/rscmarkdown.build").run Tryz.prog w = .ok (247, .pointer (some a)) w := by kernel_rfl
theorem as_List_no (T X : Nat) (v : Value) (w : World) (h : T ≠ 111) :
    (Instr.typeAssert (.iface T v) X 111 true).run Tryz.prog w = .ok (.tuple #[.pointer none, .bool false]) w :=
  as_ptr_no T _ 149 (by kernel_rfl) (fun _ => by kernel_rfl) X v w h

/-- A row's block is none of another type's. -/
theorem own_ne {w : World} {e size n b T : Nat} {v : Value} {xs : List Value} {cs : Array Value} (h : w.ownsRow 0 e size v n xs) (hb : Blk w b cs T) (hT : T ≠ e) : ¬ v.ownBlock = some b := by
  intro hv
  rcases h.2 with ⟨h2, _⟩ | ⟨g', cap', cur', h2, _, hg', _⟩
  · rw [h2] at hv; cases hv
  · rw [h2] at hv
    have : g' = b := Option.some.inj hv
    subst this
    exact hb.ne_of_type (T' := e) hg' hT rfl
theorem own_ne_ps {w : World} {e size n bp : Nat} {p : PSt} {v : Value} {xs : List Value} (h : w.ownsRow 0 e size v n xs) (hp : PsAt w bp p) (he : e ≠ 95) : ¬ v.ownBlock = some bp := by
  obtain ⟨tail, htl⟩ := id hp
  exact own_ne h htl (Ne.symm he)
theorem own_ne_row {w : World} {e size n e' size' n' g : Nat} {v v' : Value} {xs xs' : List Value} (h : w.ownsRow 0 e size v n xs) (h' : w.ownsRow 0 e' size' v' n' xs') (hg : v'.ownBlock = some g) (he : e' ≠ e) : ¬ v.ownBlock = some g := by
  rcases h'.2 with ⟨h2, _⟩ | ⟨g', cap', cur', h2, _, hg', _⟩
  · rw [h2] at hg; cases hg
  · rw [h2] at hg
    have : g' = g := Option.some.inj hg
    subst this
    exact own_ne h hg' he

/-- What closing a paragraph leaves: the parent holds it. -/
structure ParaClosed (w w' : World) (bp g n cap nt ni : Nat) (p : PSt) (l lt li : List Value) (c inner : Value) (sp ep sl el : Int) (s : ByteArray) (v : Value) : Prop where
  mods : Mods (fun k => k = bp ∨ k = g ∨ p.texts.ownBlock = some k ∨ inner.ownBlock = some k) w w'
  ex : ∃ pk tb tg tc ig ic, v = .iface 153 (.pointer (some ⟨pk, 0, none⟩)) ∧ w.heap.size ≤ pk ∧ w.heap.size ≤ tb ∧
    Blk w' pk #[.int .i64 sl, .int .i64 el, .pointer (some ⟨tb, 0, none⟩)] 155 ∧
    Blk w' tb #[.int .i64 sl, .int .i64 el, .slice none 0 0, .string s] 110 ∧
    PsAt w' bp { p with texts := .slice (some ⟨tg, 0, none⟩) (nt + 1) tc, stack := .slice (some ⟨g, 0, none⟩) (n + 1) cap } ∧
    w'.ownsRow 0 105 1 (.slice (some ⟨tg, 0, none⟩) (nt + 1) tc) (nt + 1) (lt ++ [.pointer (some ⟨tb, 0, none⟩)]) ∧
    w'.ownsRow 0 121 4 (.slice (some ⟨g, 0, none⟩) (n + 1) cap) (n + 1) (l ++ [c, .slice (some ⟨ig, 0, none⟩) (ni + 1) ic, .int .i64 sp, .int .i64 ep]) ∧
    w'.ownsRow 0 68 1 (.slice (some ⟨ig, 0, none⟩) (ni + 1) ic) (ni + 1) (li ++ [.iface 153 (.pointer (some ⟨pk, 0, none⟩))])

theorem row_in {w : World} {g cap n j : Nat} {l : List Value} {c x y u : Value} {v : Value} (hlen : l.length = n * 4) (hj : j = n * 4 + 1)
    (h : w.ownsRow 0 121 4 (.slice (some ⟨g, 0, none⟩) (n + 1) cap) (n + 1) (l ++ [c, u, x, y])) :
    (w.setCell ⟨g, j, none⟩ v).ownsRow 0 121 4 (.slice (some ⟨g, 0, none⟩) (n + 1) cap) (n + 1) (l ++ [c, v, x, y]) := by
  subst hj
  have h1 := ownsRow_set h (n * 4 + 1) v (by omega)
  have e : (l ++ [c, u, x, y]).set (n * 4 + 1) v = l ++ [c, v, x, y] := by
    rw [← hlen]
    simp
  rw [e] at h1
  exact h1

set_option maxRecDepth 100000 in
set_option maxHeartbeats 4000000 in
theorem closePara (bp bb g n cap nt ni : Nat) (p : PSt) (l lt li : List Value) (c inner i tv : Value) (sp ep sl el : Int) (nl : Nat) (s : ByteArray) (w : World) (hp : PsAt w bp p) (hst : p.stack = .slice (some ⟨g, 0, none⟩) (n + 1 + 1) cap) (hn : n ≤ 100)
    (hown : w.ownsRow 0 121 4 (.slice (some ⟨g, 0, none⟩) (n + 1 + 1) cap) (n + 1 + 1) ((l ++ [c, inner, .int .i64 sp, .int .i64 ep]) ++ [.iface 162 (.pointer (some ⟨bb, 0, none⟩)), i, .int .i64 sl, .int .i64 el]))
    (hin : w.ownsRow 0 68 1 inner ni li) (hni : ni ≤ 100000)
    (hB : Blk w bb #[tv, .pointer none] 166) (htv : ∃ a cp, tv = .slice a nl cp) (hnl : nl ≤ 100000)
    (htx : w.ownsRow 0 105 1 p.texts nt lt) (hnt : nt ≤ 100000)
    (hJ : ∀ W, Same w W → Calls Tryz.prog 29 #[tv, .string ⟨#[10]⟩] W fun e W' => e = .returned (.string s) ∧ Same W W')
    (h0 : 0 < s.size) (hs : s.size ≤ 1000000) (h1 : s[0] ≠ 32) (h2 : s[0] ≠ 9) (h3 : s[0] ≠ 10) (h4 : s[0] ≠ 91) (hsl : 0 ≤ sl) (hsl2 : sl ≤ 1000000) :
    Calls Tryz.prog 73 #[.pointer (some ⟨bp, 0, none⟩)] w fun e w' => ∃ v, e = .returned v ∧ ParaClosed w w' bp g n cap nt ni p l lt li c inner sp ep sl (sl + nl - 1) s v := by
  obtain ⟨c0, c1, c2, c3, cf, cl⟩ := row_cells hown
  have k4 := hp.stack
  rw [hst] at k4
  have hbl := hp.lt
  have w1 : IntKind.i64.wrap ((n : Int) + 1) = (n : Int) + 1 := IntWalk.i64_in _ (by omega)
  have w2 : (0 : Int) ≤ (n : Int) + 1 := by omega
  have w3 : (n : Int) + 1 < (n : Int) + 1 + 1 := by omega
  have w4 : ((n : Int) + 1).toNat = n + 1 := by omega
  have hE := eql_builder_nil
  have hM := m_build_para
  clear cf
  go_enter Tryz.func73, Tryz.ntmps73
  go_wp2_with fail
  go_quiet (fail)
  go_wp2_with fail
  have hD : Same w (w.drewN nq) := (Mods.refl _ w).drewN nq
  generalize hW : (w.drewN nq : World) = W at *
  clear hW
  have hpW := hp.same hD
  have hownW := ownsRow_keep hown hD (fun _ _ x => x)
  have hinW := ownsRow_keep hin hD (fun _ _ x => x)
  have htxW := ownsRow_keep htx hD (fun _ _ x => x)
  refine (paraBuild_any bp bb g (n + 1) cap nt p _ lt _ i tv sl el nl [] s W hpW hst (by omega) hownW (Same.blk hD hB) htv hnl htxW hnt (fun X hX => hJ X (hD.trans hX)) h0 hs h1 h2 h3 h4 hsl hsl2).mono ?_
  rintro e wA ⟨v, rfl, hPB⟩
  obtain ⟨pk, tb, g2, cap2, rfl, hpk, htb, hP, hT, hpA, htxA⟩ := hPB.ex
  have hownA := row_texts hpW htxW hPB.mods hownW (by decide) (by decide)
  have hinA := row_texts hpW htxW hPB.mods hinW (by decide) (by decide)
  clear hJ c0 c1 c2 c3 k4 hbl hpW hinW htxW
  have k4 := hpA.stack
  have f4 := hpA.fr 4
  have hbl := hpA.lt
  have hL := as_List_no 153
  have hL2 := fun X v w => hL X v w (by decide)
  rw [hst] at k4
  have hcap : n + 1 + 1 ≤ cap := by
    rcases hownA.2 with ⟨h, _⟩ | ⟨_, _, _, h, _, _, hc, _⟩
    · cases h
    · cases h; exact hc
  have w5 : (n : Int) + 1 ≤ cap := by omega
  have w6 : IntKind.i64.wrap (n : Int) = n := IntWalk.i64_in _ (by omega)
  have w7 : (0 : Int) < (n : Int) + 1 := by omega
  have w8 : (n : Int) < (n : Int) + 1 := by omega
  have w9 : (0 : Int) ≤ (n : Int) := by omega
  clear hE hM
  go_wp2_with fail
  go_region
  go_wp2_with fail
  generalize hX : ((wA.setCell ⟨bp, 4, none⟩ (.slice (some ⟨g, 0, none⟩) (n + 1) cap)).drew : World) = X
  have hmX : Mods (fun k => k = bp) wA X := by subst hX; exact ((Mods.refl (fun k => k = bp) wA).setCell (p := ⟨bp, 4, none⟩) (fun _ => rfl) _).drew
  have hpX : PsAt X bp { p with texts := .slice (some ⟨g2, 0, none⟩) (nt + 1) cap2, stack := .slice (some ⟨g, 0, none⟩) (n + 1) cap } := by
    subst hX
    exact PsAt.drew (hpA.set 4 _ _ rfl (by decide))
  clear hX
  obtain ⟨tail, htl⟩ := id hpX
  have hne : ∀ {b : Nat} {cs : Array Value} {T : Nat}, Blk X b cs T → T ≠ 95 → b ≠ bp := fun h hT => h.ne_of_type htl hT
  have hneA : ∀ {e size m : Nat} {v : Value} {xs : List Value}, wA.ownsRow 0 e size v m xs → e ≠ 95 → ∀ b, v.ownBlock = some b → ¬ (b = bp) := by
    intro e size m v xs h he b hb
    obtain ⟨tailA, htlA⟩ := id hpA
    rcases h.2 with ⟨h2, _⟩ | ⟨g', cap', cur', h2, _, hg', _⟩
    · rw [h2] at hb; cases hb
    · rw [h2] at hb
      have : g' = b := Option.some.inj hb
      subst this
      exact Blk.ne_of_type (T := e) hg' htlA he
  have hownX := ownsRow_keep hownA hmX (hneA hownA (by decide))
  have htxX := ownsRow_keep htxA hmX (hneA htxA (by decide))
  have hinX := ownsRow_keep hinA hmX (hneA hinA (by decide))
  have hPX := hP.keep hmX (fun h => by obtain ⟨tailA, htlA⟩ := id hpA; exact hP.ne_of_type htlA (by decide) h)
  have hTX := hT.keep hmX (fun h => by obtain ⟨tailA, htlA⟩ := id hpA; exact hT.ne_of_type htlA (by decide) h)
  have hownP := ownsRow_pop hownX rfl
  obtain ⟨d0, d1, d2, d3, df, dl⟩ := row_cells hownP
  clear k4 f4 hbl
  have k4 := hpX.stack
  have hbl := hpX.lt
  go_quiet (fail)
  go_wp2_with (at_builtin; refine ap_blk rfl (.tmp 106) (.tmp 108) rfl inner ni li rfl ((ownsRow_keep hinX ((Mods.refl (fun _ => False) X).drewN nq) (fun _ _ x => x)).alloc _) X.heap.size 1 _ (.pointer (some ⟨pk, 0, none⟩)) rfl ((Blk.newAt _ _ rfl).cell 0) (by omega) ?_)
  intro ig ic wB hinB hgrow hloc
  generalize hZ : ((X.drewN nq).alloc _ : World) = Z at *
  have hmZ : Same X Z := by subst hZ; exact ((Mods.refl _ X).drewN nq).alloc _
  clear hZ
  have hmB := grown_mods hgrow
  have hpB := (hpX.same hmZ).keep hmB (own_ne_ps (ownsRow_keep hinX hmZ (fun _ _ x => x)) (hpX.same hmZ) (by decide))
  have hinZ := ownsRow_keep hinX hmZ (fun _ _ x => x)
  have htxB := ownsRow_keep (ownsRow_keep htxX hmZ (fun _ _ x => x)) hmB (fun k hk => own_ne_row hinZ (ownsRow_keep htxX hmZ (fun _ _ x => x)) hk (by decide))
  have hownB := ownsRow_keep (ownsRow_keep hownP hmZ (fun _ _ x => x)) hmB (fun k hk => own_ne_row hinZ (ownsRow_keep hownP hmZ (fun _ _ x => x)) hk (by decide))
  have hPB' := (Same.blk hmZ hPX).keep hmB (own_ne hinZ (Same.blk hmZ hPX) (by decide))
  have hTB' := (Same.blk hmZ hTX).keep hmB (own_ne hinZ (Same.blk hmZ hTX) (by decide))
  obtain ⟨q0, q1, q2, q3, qf, ql⟩ := row_cells hownB
  have qf1 := qf (n * 4 + 1)
  clear qf df d0 d1 d2 d3
  go_wp2
  go_ret
  have hgbp : g ≠ bp := fun h => own_ne_ps hownB hpB (by decide) (by rw [h]; rfl)
  have hgpk : pk ≠ g := fun h => own_ne hownB hPB' (by decide) (by rw [h]; rfl)
  have hgtb : tb ≠ g := fun h => own_ne hownB hTB' (by decide) (by rw [h]; rfl)
  have hmF : Mods (fun k => k = g) wB (wB.setCell ⟨g, n * 4 + 1, none⟩ (.slice (some ⟨ig, 0, none⟩) (ni + 1) ic)) := (Mods.refl (fun k => k = g) wB).setCell (p := ⟨g, n * 4 + 1, none⟩) (fun _ => rfl) _
  have hlen : l.length = n * 4 := by have := hownB.1; simp at this; omega
  refine ⟨_, rfl, ?_, pk, tb, g2, cap2, ig, ic, rfl, ?_, ?_, hPB'.keep1 hmF hgpk, hTB'.keep1 hmF hgtb, hpB.set_other (a := ⟨g, n * 4 + 1, none⟩) hgbp _, ?_, row_in hlen rfl hownB, ?_⟩
  · have m1 : Mods (fun k => k = bp ∨ k = g ∨ p.texts.ownBlock = some k ∨ inner.ownBlock = some k) w wA := (hD.mono (fun _ _ h => absurd h (fun x => x))).then hPB.mods (fun _ _ h => h.elim Or.inl (fun h => Or.inr (Or.inr (Or.inl h))))
    have m2 := m1.then hmX (fun _ _ h => Or.inl h)
    have m3 := m2.then hmZ (fun _ _ h => absurd h (fun x => x))
    have m4 := m3.then hmB (fun _ _ h => Or.inr (Or.inr (Or.inr h)))
    exact m4.then hmF (fun _ _ h => Or.inr (Or.inl h))
  · have := hD.size; omega
  · have := hD.size; omega
  · exact ownsRow_keep htxB hmF (fun k hk he => own_ne_row htxB hownB (g := g) rfl (by decide) (by rw [← he]; exact hk))
  · exact ownsRow_keep hinB hmF (fun k hk he => own_ne_row hinB hownB (g := g) rfl (by decide) (by rw [← he]; exact hk))
end Go.Proofs.YtdnlfdppjfjncaaGreatDoor
