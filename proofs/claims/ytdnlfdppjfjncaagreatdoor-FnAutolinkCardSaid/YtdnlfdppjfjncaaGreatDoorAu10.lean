/- Some texts of one proof, put into one file: Close4, Feed, Fence, Cut, Fence2, Fence3. -/
import Derived.Deep.RegionLaw
import Derived.Deep.DeepCutAuto
import Derived.Test.YtdnlfdppjfjncaaGreatDoorAu4
import Derived.Test.YtdnlfdppjfjncaaGreatDoorAu6
import Derived.Test.YtdnlfdppjfjncaaGreatDoorAu9
/- closeBlock whatever builder is on top, over the contract of its build; the parent holds what was built. -/
namespace Go.Proofs.YtdnlfdppjfjncaaGreatDoor
open Go Go.RowKit Go.Proofs

/-- What building the top block leaves: the state (with the same stack), the stack's row, the parent's row, and X of what was built. -/
structure Built (w wA : World) (bp g n cap ni : Nat) (p : PSt) (l li : List Value) (inner : Value) (SA : Nat → Prop) (X : World → Value → Prop) (v : Value) (p' : PSt) : Prop where
  mods : Mods SA w wA
  at_ : PsAt wA bp p'
  stack : p'.stack = p.stack
  row : wA.ownsRow 0 121 4 (.slice (some ⟨g, 0, none⟩) n cap) n l
  inn : wA.ownsRow 0 68 1 inner ni li
  x : X wA v

/-- What closing it leaves. -/
structure GenClosed (w w' : World) (bp g n cap ni : Nat) (p' : PSt) (l li : List Value) (c inner : Value) (sp ep : Int) (SA : Nat → Prop) (X : World → Value → Prop) (TB : Nat) (v : Value) : Prop where
  mods : Mods (fun k => SA k ∨ k = bp ∨ k = g ∨ inner.ownBlock = some k) w w'
  ex : ∃ ig ic, PsAt w' bp { p' with stack := .slice (some ⟨g, 0, none⟩) (n + 1) cap } ∧
    w'.ownsRow 0 121 4 (.slice (some ⟨g, 0, none⟩) (n + 1) cap) (n + 1) (l ++ [c, .slice (some ⟨ig, 0, none⟩) (ni + 1) ic, .int .i64 sp, .int .i64 ep]) ∧
    w'.ownsRow 0 68 1 (.slice (some ⟨ig, 0, none⟩) (ni + 1) ic) (ni + 1) (li ++ [.iface TB v]) ∧ (inner.ownBlock = some ig ∨ w.heap.size ≤ ig)
  x : X w' v

set_option maxRecDepth 100000 in
set_option maxHeartbeats 4000000 in
theorem close_gen (bp g n cap ni : Nat) (p : PSt) (l li : List Value) (c inner i : Value) (T fb TB : Nat) (a : Option Addr) (sp ep sl el : Int) (SA : Nat → Prop) (X : World → Value → Prop) (w : World) (hp : PsAt w bp p) (hst : p.stack = .slice (some ⟨g, 0, none⟩) (n + 1 + 1) cap) (hn : n ≤ 100)
    (hown : w.ownsRow 0 121 4 (.slice (some ⟨g, 0, none⟩) (n + 1 + 1) cap) (n + 1 + 1) ((l ++ [c, inner, .int .i64 sp, .int .i64 ep]) ++ [.iface T (.pointer a), i, .int .i64 sl, .int .i64 el]))
    (_hin : w.ownsRow 0 68 1 inner ni li) (hni : ni ≤ 100000)
    (hM : ∀ (k : Nat) (w : World), (method (k + 1) T (.pointer a) "pub-paratext/pub/rscmarkdown.build").run Tryz.prog w = .ok (fb, .pointer a) w) (hTB : TB ≠ 111)
    (hF : ∀ (args : Array Value) (w : World), (callFunc fb args).run Tryz.prog w = .ok (.enter fb args) w)
    (hB : ∀ W, Same w W → Calls Tryz.prog fb #[.pointer a, .iface 116 (.pointer (some ⟨bp, 0, none⟩))] W fun e wA => ∃ bv p', e = .returned (.iface TB (.pointer bv)) ∧
      Built W wA bp g (n + 1 + 1) cap ni p ((l ++ [c, inner, .int .i64 sp, .int .i64 ep]) ++ [.iface T (.pointer a), i, .int .i64 sl, .int .i64 el]) li inner SA X (.pointer bv) p')
    (hX : ∀ W W' v, (∃ q, PsAt W bp q) → (∃ cur, Blk W g cur 121) → X W v → Mods (fun k => k = bp ∨ k = g ∨ inner.ownBlock = some k) W W' → X W' v) :
    Calls Tryz.prog 73 #[.pointer (some ⟨bp, 0, none⟩)] w fun e w' => ∃ bv p', e = .returned (.iface TB (.pointer bv)) ∧ p'.stack = p.stack ∧ GenClosed w w' bp g n cap ni p' l li c inner sp ep SA X TB (.pointer bv) := by
  obtain ⟨c0, c1, c2, c3, cf, cl⟩ := row_cells hown
  have k4 := hp.stack
  rw [hst] at k4
  have hbl := hp.lt
  have w1 : IntKind.i64.wrap ((n : Int) + 1) = (n : Int) + 1 := IntWalk.i64_in _ (by omega)
  have w2 : (0 : Int) ≤ (n : Int) + 1 := by omega
  have w3 : (n : Int) + 1 < (n : Int) + 1 + 1 := by omega
  have w4 : ((n : Int) + 1).toNat = n + 1 := by omega
  have hE := eql_builder_nil
  have HX := Lib.hid hX
  clear cf hX
  go_enter Tryz.func73, Tryz.ntmps73
  go_wp2_with fail
  go_quiet (fail)
  go_wp2_with fail
  have hD : Same w (w.drewN nq) := (Mods.refl _ w).drewN nq
  generalize hW : (w.drewN nq : World) = W at *
  clear hW
  have hBW := hB W hD
  clear hB
  refine hBW.mono ?_
  rintro e wA ⟨bv, p', rfl, hPB⟩
  obtain ⟨hmA, hpA, hstA, hownA, hinA, hxA⟩ := hPB
  clear c0 c1 c2 c3 k4 hbl
  have k4 := hpA.stack
  have f4 := hpA.fr 4
  have hbl := hpA.lt
  have hL2 := fun X v w => as_List_no TB X v w hTB
  have HST := Lib.hid hstA
  rw [hstA, hst] at k4
  have hcap : n + 1 + 1 ≤ cap := by
    rcases hownA.2 with ⟨h, _⟩ | ⟨_, _, _, h, _, _, hc, _⟩
    · cases h
    · cases h; exact hc
  have w5 : (n : Int) + 1 ≤ cap := by omega
  have w6 : IntKind.i64.wrap (n : Int) = n := IntWalk.i64_in _ (by omega)
  have w7 : (0 : Int) < (n : Int) + 1 := by omega
  have w8 : (n : Int) < (n : Int) + 1 := by omega
  have w9 : (0 : Int) ≤ (n : Int) := by omega
  clear hE hM hF hstA
  go_wp2_with fail
  go_region
  go_wp2_with fail
  generalize hX : ((wA.setCell ⟨bp, 4, none⟩ (.slice (some ⟨g, 0, none⟩) (n + 1) cap)).drew : World) = Y
  have hmX : Mods (fun k => k = bp) wA Y := by subst hX; exact ((Mods.refl (fun k => k = bp) wA).setCell (p := ⟨bp, 4, none⟩) (fun _ => rfl) _).drew
  have hpX : PsAt Y bp { p' with stack := .slice (some ⟨g, 0, none⟩) (n + 1) cap } := by
    subst hX
    exact PsAt.drew (hpA.set 4 _ _ rfl (by decide))
  clear hX
  have hownX := ownsRow_keep hownA hmX (fun k hk x => own_ne_ps hownA hpA (by decide) (by rw [← x]; exact hk))
  have hinX := ownsRow_keep hinA hmX (fun k hk x => own_ne_ps hinA hpA (by decide) (by rw [← x]; exact hk))
  have hownP := ownsRow_pop hownX rfl
  obtain ⟨d0, d1, d2, d3, df, dl⟩ := row_cells hownP
  clear k4 f4 hbl
  have k4 := hpX.stack
  have hbl := hpX.lt
  go_quiet (fail)
  go_wp2_with (at_builtin; refine ap_blk rfl (.tmp 106) (.tmp 108) rfl inner ni li rfl ((ownsRow_keep hinX ((Mods.refl (fun _ => False) Y).drewN nq) (fun _ _ x => x)).alloc _) Y.heap.size 1 _ (.pointer bv) rfl ((Blk.newAt _ _ rfl).cell 0) (by omega) ?_)
  intro ig ic wB hinB hgrow hloc
  generalize hZ : ((Y.drewN nq).alloc _ : World) = Z at *
  have hmZ : Same Y Z := by subst hZ; exact ((Mods.refl _ Y).drewN nq).alloc _
  have hZs : Z.heap.size = Y.heap.size + 1 := by subst hZ; simp
  clear hZ
  have hmB := grown_mods hgrow
  have hinZ := ownsRow_keep hinX hmZ (fun _ _ x => x)
  have hpB := (hpX.same hmZ).keep hmB (own_ne_ps hinZ (hpX.same hmZ) (by decide))
  have hownB := ownsRow_keep (ownsRow_keep hownP hmZ (fun _ _ x => x)) hmB (fun k hk => own_ne_row hinZ (ownsRow_keep hownP hmZ (fun _ _ x => x)) hk (by decide))
  obtain ⟨q0, q1, q2, q3, qf, ql⟩ := row_cells hownB
  have qf1 := qf (n * 4 + 1)
  clear qf df d0 d1 d2 d3
  go_wp2
  go_ret
  have hgbp : g ≠ bp := fun h => own_ne_ps hownB hpB (by decide) (by rw [h]; rfl)
  have hmF : Mods (fun k => k = g) wB (wB.setCell ⟨g, n * 4 + 1, none⟩ (.slice (some ⟨ig, 0, none⟩) (ni + 1) ic)) := (Mods.refl (fun k => k = g) wB).setCell (p := ⟨g, n * 4 + 1, none⟩) (fun _ => rfl) _
  have hlen : l.length = n * 4 := by have := hownB.1; simp at this; omega
  have hgrow4 : Mods (fun k => k = bp ∨ k = g ∨ inner.ownBlock = some k) wA (wB.setCell ⟨g, n * 4 + 1, none⟩ (.slice (some ⟨ig, 0, none⟩) (ni + 1) ic)) := by
    have m1 := hmX.mono (S' := fun k => k = bp ∨ k = g ∨ inner.ownBlock = some k) (fun _ _ h => Or.inl h)
    have m2 := m1.then hmZ (fun _ _ h => absurd h (fun x => x))
    have m3 := m2.then hmB (fun _ _ h => Or.inr (Or.inr h))
    exact m3.then hmF (fun _ _ h => Or.inr (Or.inl h))
  refine ⟨bv, p', rfl, HST.out, ?_, ⟨ig, ic, hpB.set_other (a := ⟨g, n * 4 + 1, none⟩) hgbp _, row_in hlen rfl hownB, ?_, ?_⟩, ?_⟩
  · exact ((hD.mono (S' := fun k => SA k ∨ k = bp ∨ k = g ∨ inner.ownBlock = some k) (fun _ _ h => absurd h (fun x => x))).then hmA (fun _ _ h => Or.inl h)).then hgrow4 (fun _ _ h => Or.inr h)
  · exact ownsRow_keep hinB hmF (fun k hk he => own_ne_row hinB hownB (g := g) rfl (by decide) (by rw [← he]; exact hk))
  · rcases hloc with h | h
    · exact Or.inl h
    · right
      have h1 := hD.size
      have h2 := hmA.size
      have h3 := hmX.size
      have h4 := hmZ.size
      omega
  · obtain ⟨gx, _, he, ⟨cur, hcur⟩, _, _⟩ := ownsRow_form hownA (by omega)
    cases he
    exact HX.out wA _ _ ⟨p', hpA⟩ ⟨cur, hcur⟩ hxA hgrow4
end Go.Proofs.YtdnlfdppjfjncaaGreatDoor

/- A text that is read line by line; the parser's loop over it, whatever the lines do. -/
namespace Go.Proofs.YtdnlfdppjfjncaaGreatDoor
open Go Go.RowKit Go.Proofs

/-- rest j is what is left of a text when j of its lines have been read. -/
structure Feed (rest : Nat → ByteArray) (ls : List ByteArray) : Prop where
  done : rest ls.length = ⟨#[]⟩
  step : ∀ j l, ls[j]? = some l → (rest j).data.toList = l.data.toList ++ 10 :: (rest (j + 1)).data.toList ∨ (rest j = l ∧ 0 < l.size ∧ rest (j + 1) = ⟨#[]⟩)
  no10 : ∀ l ∈ ls, ∀ i (hi : i < l.size), l[i] ≠ 10
  no13 : ∀ j i (hi : i < (rest j).size), (rest j)[i] ≠ 13
  no0 : ∀ i (hi : i < (rest 0).size), (rest 0)[i] ≠ 0
  small : ∀ j, (rest j).size ≤ 900000
  count : ls.length ≤ 900000

theorem cut_lt {J l B : ByteArray} (h : J.data.toList = l.data.toList ++ 10 :: B.data.toList) : J.size = l.size + 1 + B.size := by
  rw [size_list, h, List.length_append, List.length_cons, size_list, size_list]; omega
theorem cut_idx {J l B : ByteArray} (h : J.data.toList = l.data.toList ++ 10 :: B.data.toList) (h10 : ∀ i (hi : i < l.size), l[i] ≠ 10) : idx1 J 10 = (l.size : Int) := by
  have hsz := cut_lt h
  have hlt : l.size < J.size := by omega
  have hk : J[l.size] = 10 := by
    have hg := list_get hlt
    rw [h, List.getElem?_append_right (by rw [← size_list]; exact Nat.le_refl _), ← size_list, Nat.sub_self] at hg
    simpa using hg.symm
  have hf : fst1 J 10 0 = l.size := by
    refine fst1_at _ 10 l.size hlt hk _ 0 rfl (Nat.zero_le _) (fun j hj _ hjl => ?_)
    have hg := list_get hj
    rw [h, List.getElem?_append_left (by rw [← size_list]; exact hjl), list_get hjl] at hg
    rw [← Option.some.inj hg]
    exact h10 j hjl
  unfold idx1
  rw [hf, if_pos hlt]
theorem cut_first {J l B : ByteArray} (h : J.data.toList = l.data.toList ++ 10 :: B.data.toList) : J.extract 0 l.size = l := by
  apply ByteArray.ext
  apply Array.ext'
  rw [Lib.extract_data, h, List.drop_zero, Nat.sub_zero, size_list, List.take_left']
  rfl
theorem cut_rest {J l B : ByteArray} (h : J.data.toList = l.data.toList ++ 10 :: B.data.toList) : J.extract (l.size + 1) J.size = B := by
  have hsz := cut_lt h
  apply ByteArray.ext
  apply Array.ext'
  rw [Lib.extract_data, h]
  have h1 : (l.data.toList ++ 10 :: B.data.toList).drop (l.size + 1) = B.data.toList := by
    rw [size_list, ← List.drop_drop, List.drop_left']
    · rfl
    · rfl
  rw [h1, hsz, show l.size + 1 + B.size - (l.size + 1) = B.size by omega, size_list, List.take_length]

theorem empty_of {s : ByteArray} (h : s.size = 0) : s = ⟨#[]⟩ := by
  apply ByteArray.ext_getElem
  · exact h
  · intro i h1 h2; omega

def rootV' (v : Option Addr) : Value := .iface 98 (.pointer v)

/-- What the loop over the lines, the closing of the blocks and the loop over the texts are asked: R j: behind j lines; D tx i: closed, and the inlines of i of the n texts in tx read. -/
structure Reads (w : World) (bp pp : Nat) (ls : List ByteArray) (R : Nat → World → Prop) (D : Value → Nat → World → Prop) (n : Nat) : Prop where
  line : ∀ j W, R j W → W.cell? ⟨bp, 3, none⟩ = some (.int .i64 (j : Nat)) ∧ W.frozen? ⟨bp, 3, none⟩ = false ∧ bp < W.heap.size
  same : ∀ j W W', R j W → Same W W' → R j W'
  first : ∀ W g cap v, Same w W → w.heap.size ≤ g → PsAt W bp { p0 pp with stack := .slice (some ⟨g, 0, none⟩) 1 cap } →
    W.ownsRow 0 121 4 (.slice (some ⟨g, 0, none⟩) 1 cap) 1 [rootV' v, .slice none 0 0, .int .i64 0, .int .i64 0] → R 0 W
  step : ∀ j l nl W, ls[j]? = some l → R j W → Calls Tryz.prog 64 #[.pointer (some ⟨bp, 0, none⟩), LV 0 l nl] (W.setCell ⟨bp, 3, none⟩ (.int .i64 ((j : Int) + 1))) fun e w2 => e = .returned (.tuple #[]) ∧ R (j + 1) w2
  close : ∀ W, R ls.length W → Calls Tryz.prog 65 #[.pointer (some ⟨bp, 0, none⟩), .int .i64 0] W fun e w' => e = .returned (.tuple #[]) ∧ ∃ a c, w'.cell? ⟨bp, 11, none⟩ = some (.slice a n c) ∧ D (.slice a n c) 0 w'
  texts : ∀ a c i W, i < n → D (.slice a n c) i W → ∃ g tb s, a = some ⟨g, 0, none⟩ ∧ n ≤ c ∧ W.cell? ⟨g, i, none⟩ = some (.pointer (some ⟨tb, 0, none⟩)) ∧ W.cell? ⟨tb, 3, none⟩ = some (.string s) ∧
      Calls Tryz.prog 66 #[.pointer (some ⟨bp, 0, none⟩), .string s] W fun e w' => ∃ a2 n2 c2, e = .returned (.slice a2 n2 c2) ∧ (∃ u, w'.cell? ⟨tb, 2, none⟩ = some u ∧ w'.frozen? ⟨tb, 2, none⟩ = false ∧ tb < w'.heap.size) ∧ D (.slice a n c) (i + 1) (w'.setCell ⟨tb, 2, none⟩ (.slice a2 n2 c2))
  sameD : ∀ tx i W W', D tx i W → Same W W' → D tx i W'
  fin : ∀ tx W, D tx n W → (∃ rk, W.cell? ⟨bp, 1, none⟩ = some (.pointer (some ⟨rk, 0, none⟩))) ∧ (∃ c, W.cell? ⟨bp, 6, none⟩ = some (.bool c)) ∧ W.cell? ⟨pp, 2, none⟩ = some (.bool false) ∧ W.cell? ⟨bp, 0, none⟩ = some (.pointer (some ⟨pp, 0, none⟩))

set_option maxRecDepth 100000 in
set_option maxHeartbeats 8000000 in
theorem parse_gen (pp : Nat) (rest : Nat → ByteArray) (ls : List ByteArray) (w : World) (hF : Feed rest ls) (R : Nat → World → Prop) (D : Value → Nat → World → Prop) (n : Nat) (hn : n ≤ 100000) (hR : Reads w w.heap.size pp ls R D n) :
    Calls Tryz.prog 51 #[.pointer (some ⟨pp, 0, none⟩), .string (rest 0)] w fun e w' => ∃ rk c, e = .returned (.tuple #[.pointer (some ⟨rk, 0, none⟩), .bool c]) ∧ w'.cell? ⟨w.heap.size, 1, none⟩ = some (.pointer (some ⟨rk, 0, none⟩)) ∧ ∃ tx, D tx n w' := by
  have hs6 : (rest 0).size ≤ 1000000 := by have := hF.small 0; omega
  have i0 := idx1_none hF.no0
  go_enter Tryz.func51, Tryz.ntmps51
  go_wp2_with fail
  refine (zzContains_any (rest 0) 0 _ hs6).mono ?_
  rintro e w' ⟨rfl, rfl⟩
  rw [i0]
  generalize hW : (World.alloc _ _ : World) = W
  have hm0 : Same w W := by subst hW; exact (Mods.refl _ w).alloc _
  have hp0 : PsAt W w.heap.size { p0 pp with depth := 0 } := by
    subst hW
    exact ⟨Tryz.zeroCells95.toList.drop 12, Blk.newAt _ _ rfl⟩
  clear hW
  generalize hbp : w.heap.size = bp at *
  have k5 := hp0.depth
  have f5 := hp0.fr 5
  have hbl := hp0.lt
  go_wp2_with fail
  generalize hX : (World.alloc (World.setCell _ _ _) _ : World) = X
  have hmX : Same w X := by
    subst hX
    exact (hm0.setCell (p := ⟨bp, 5, none⟩) (fun h => absurd h (Nat.not_lt.2 (Nat.le_of_eq hbp))) _).alloc _
  have hpX : PsAt X bp (p0 pp) := by
    subst hX
    exact PsAt.alloc (hp0.set 5 (.int .i64 (-1)) (p0 pp) rfl (by decide)) _
  clear hX
  refine (addBlock_any bp 0 0 none (p0 pp) _ (.pointer (some ⟨W.heap.size, 0, none⟩)) [] (-1) X hpX rfl (by omega) rfl rfl ⟨rfl, Or.inl ⟨rfl, rfl⟩⟩ (fun g h => by cases h) rfl).mono ?_
  rintro e w1 ⟨rfl, hm1, g, cap, hp1, hown1, hgl1⟩
  have hmw1 : Same w w1 := hmX.then hm1 (fun b hb h => by
    rcases h with h | h
    · omega
    · cases h)
  have hXs := hmX.size
  have hgw : w.heap.size ≤ g := by
    by_cases h : g < X.heap.size
    · cases hgl1 h
    · omega
  have hR0 : R 0 w1 := hR.first w1 g cap (some ⟨W.heap.size, 0, none⟩) hmw1 hgw hp1 hown1
  clear k5 f5 hbl hm0 hp0 hmX hpX hm1 hp1 hown1 hgl1 hmw1 hXs hgw
  go_wp2_with fail
  go_loopg [1] ls.length (fun k v1 wr => ∃ j : Nat, k = ls.length - j ∧ j ≤ ls.length ∧ v1 = .string (rest j) ∧ R j wr)
  case atStart => exact ⟨0, rfl, Nat.zero_le _, rfl, hR0⟩
  case round =>
    clear hR0
    obtain ⟨j, hk, hj, rfl, hRj⟩ := hrel
    have HK := Lib.hid hk
    clear hk
    by_cases hlt : j < ls.length
    · obtain ⟨l, hl⟩ : ∃ l, ls[j]? = some l := ⟨_, List.getElem?_eq_getElem hlt⟩
      obtain ⟨k3, f3, l3⟩ := hR.line j wr hRj
      have i13 := idx1_none (hF.no13 j)
      have hlmem : l ∈ ls := List.mem_of_getElem? hl
      have h10l := hF.no10 l hlmem
      have hs7 : (rest j).size ≤ 1000000 := by have := hF.small j; omega
      have w3 : IntKind.i64.wrap ((j : Int) + 1) = (j : Int) + 1 := IntWalk.i64_in _ (by have := hF.count; omega)
      have STEP := Lib.hid (fun nl wx (hx : Same wr wx) => hR.step j l nl wx hl (hR.same j wr wx hRj hx))
      rcases hF.step j l hl with hst | ⟨hst, hp, hr⟩
      · have i10 := cut_idx hst h10l
        have hx1 := cut_first hst
        have hx2 := cut_rest hst
        have hsz := cut_lt hst
        generalize hJ : rest j = J at *
        have hp2 : 0 < J.size := by omega
        have e0 : J.toList.isEmpty = false := bs_ne hp2
        have e0' : (!J.toList.isEmpty) = true := by rw [e0]; rfl
        have v1 : (l.size : Int) + 1 ≤ J.size := by omega
        have v2 : (l.size : Int) ≤ J.size := by omega
        have v3 : ¬ ((l.size : Int) < 0) := by omega
        have v4 : (0 : Int) ≤ l.size := by omega
        have v5 : IntKind.i64.wrap ((l.size : Int) + 1) = (l.size : Int) + 1 := IntWalk.i64_in _ (by omega)
        have v6 : ((l.size : Int) + 1).toNat = l.size + 1 := by omega
        have v7 : (0 : Int) ≤ (l.size : Int) + 1 := by omega
        have HX2 := Lib.hid hx2
        clear hRj hlmem h10l hJ hsz hst hx2
        go_wp2_with fail
        refine (zzIndex_any J 10 _ hs7).mono ?_
        rintro e w' ⟨rfl, rfl⟩
        rw [i10]
        go_wp2_with fail
        refine (zzIndex_any J 13 _ hs7).mono ?_
        rintro e w' ⟨rfl, rfl⟩
        rw [i13]
        go_wp2_with fail
        first | go_quiet (fail) | skip
        go_wp2_with fail
        refine (STEP.out 10 _ ((Mods.refl _ wr).drewN nq)).mono ?_
        rintro e w2 ⟨rfl, hR2⟩
        go_wp2_with fail
        go_roundg (ls.length - (j + 1))
        case measure => have := HK.out; omega
        case rel => exact ⟨j + 1, rfl, hlt, by rw [HX2.out], hR2⟩
      · rw [hst] at i13 hs7
        rw [hst]
        have i10 := idx1_none h10l
        have e0 : l.toList.isEmpty = false := bs_ne hp
        have e0' : (!l.toList.isEmpty) = true := by rw [e0]; rfl
        have HR := Lib.hid hr
        clear hRj hlmem h10l hst hr
        go_wp2_with fail
        refine (zzIndex_any l 10 _ hs7).mono ?_
        rintro e w' ⟨rfl, rfl⟩
        rw [i10]
        go_wp2_with fail
        refine (zzIndex_any l 13 _ hs7).mono ?_
        rintro e w' ⟨rfl, rfl⟩
        rw [i13]
        go_wp2_with fail
        refine (STEP.out _ wr (Mods.refl _ wr)).mono ?_
        rintro e w2 ⟨rfl, hR2⟩
        go_wp2_with fail
        go_roundg (ls.length - (j + 1))
        case measure => have := HK.out; omega
        case rel => exact ⟨j + 1, rfl, hlt, by rw [HR.out], hR2⟩
    · have hjl : j = ls.length := by omega
      subst hjl
      rw [hF.done]
      have e0 : (⟨#[]⟩ : ByteArray).toList.isEmpty = true := by simp [ByteArray.toList_eq]
      have e0' : (!(⟨#[]⟩ : ByteArray).toList.isEmpty) = false := by rw [e0]; rfl
      go_wp2_with fail
      refine (hR.close wr hRj).mono ?_
      rintro e w3 ⟨rfl, a, c, k11, hD0⟩
      clear hRj
      go_wp2_with fail
      go_loopg [83] n (fun k v83 wr2 => ∃ i : Nat, k = n - i ∧ i ≤ n ∧ v83 = .int .i64 i ∧ D (.slice a n c) i wr2)
      case atStart => exact ⟨0, rfl, Nat.zero_le _, rfl, hD0⟩
      case round =>
        clear k11 hD0
        obtain ⟨i, hk2, hin, rfl, hDi⟩ := hrel
        have HK2 := Lib.hid hk2
        clear hk2
        by_cases hil : i < n
        · obtain ⟨gt, tb, s, rfl, hnc, t0, r3, hI⟩ := hR.texts a c i wr hil hDi
          have u1 : (i : Int) < n := by omega
          have u2 : (0 : Int) ≤ i := by omega
          have u3 : IntKind.i64.wrap ((i : Int) + 1) = (i : Int) + 1 := IntWalk.i64_in _ (by omega)
          go_wp2_with fail
          refine hI.mono ?_
          rintro e w4 ⟨a2, n2, c2, rfl, ⟨u, m2, f2, l2⟩, hD2⟩
          go_wp2_with fail
          go_roundg (n - (i + 1))
          case measure => have := HK2.out; omega
          case rel => exact ⟨i + 1, rfl, hil, by simp, hD2⟩
        · have u1 : ¬ ((i : Int) < n) := by omega
          have hi : i = n := by omega
          subst hi
          obtain ⟨⟨rk, k1⟩, ⟨cc, k6⟩, o2, k0⟩ := hR.fin _ wr hDi
          go_wp2_with fail
          go_quiet (fail)
          go_wp2_with fail
          go_ret2
          exact ⟨rk, _, rfl, by rw [hbp]; exact k1, _, hR.sameD _ _ _ _ hDi ((Mods.refl _ wr).drewN nq)⟩
end Go.Proofs.YtdnlfdppjfjncaaGreatDoor

/- trimFence on any line. -/
namespace Go.Proofs.YtdnlfdppjfjncaaGreatDoor
open Go Go.RowKit Go.Proofs

theorem w_cases (c : UInt8) : (isW c = true ∧ ((c.toNat : Int) == 32) = true) ∨ (isW c = true ∧ ((c.toNat : Int) == 32) = false ∧ ((c.toNat : Int) == 9) = true) ∨ (isW c = false ∧ ((c.toNat : Int) == 32) = false ∧ ((c.toNat : Int) == 9) = false) := by
  by_cases h : isW c = true
  · have hd : c = 32 ∨ c = 9 := by simpa [isW] using h
    rcases hd with rfl | rfl
    · exact Or.inl ⟨h, rfl⟩
    · exact Or.inr (Or.inl ⟨h, rfl, rfl⟩)
  · have h' : isW c = false := by simpa using h
    exact Or.inr (Or.inr ⟨h', isW_no h'⟩)

theorem wsr_at (s : ByteArray) (j : Nat) (h0 : 0 < j) (hj : j ≤ s.size) : wsr s j = if isW (s[j - 1]'(by omega)) then wsr s (j - 1) else j := by
  obtain ⟨k, rfl⟩ : ∃ k, j = k + 1 := ⟨j - 1, by omega⟩
  rw [wsr, dif_pos (by omega)]
  rfl

def trimB (s : ByteArray) : ByteArray := trimR (trimL s)
theorem trimB_le (s : ByteArray) : (trimB s).size ≤ s.size := by
  unfold trimB trimR trimL
  rw [ByteArray.size_extract, ByteArray.size_extract]
  omega

set_option maxHeartbeats 4000000 in
theorem trimSpaceTab_any (s : ByteArray) (w : World) (hs : s.size ≤ 100000000) :
    Calls Tryz.prog 74 #[.string s] w fun e w' => e = .returned (.string (trimB s)) ∧ w = w' := by
  go_enter Tryz.func74, Tryz.ntmps74
  go_wp2_with fail
  go_loopg [3] s.size (fun k v wr => ∃ i : Nat, v = .int .i64 i ∧ k = s.size - i ∧ i ≤ s.size ∧ ws s i = ws s 0 ∧ w = wr)
  case atStart => exact ⟨0, rfl, rfl, Nat.zero_le _, rfl, rfl⟩
  case round =>
    obtain ⟨i, rfl, rfl, hi, hws, rfl⟩ := hrel
    have w3 : IntKind.i64.wrap ((i : Int) + 1) = (i : Int) + 1 := IntWalk.i64_in _ (by omega)
    have w2 : (0 : Int) ≤ i := by omega
    have w4 : (i : Int) ≤ s.size := by omega
    have HWS := Lib.hid hws
    clear hws
    by_cases hlt : i < s.size
    · have w1 : (i : Int) < s.size := by omega
      have HUN : Hid (ws s i = if isW s[i] then ws s (i + 1) else i) := Lib.hid (by rw [ws, dif_pos hlt])
      rcases w_cases s[i] with ⟨hw, d⟩ | ⟨hw, d, d2⟩ | ⟨hw, d, d2⟩
      · have HN : Hid (ws s (i + 1) = ws s 0) := Lib.hid (by rw [← HWS.out, HUN.out, if_pos hw])
        clear hw
        go_wp2_with fail
        go_roundg (s.size - (i + 1))
        case measure => omega
        case rel => exact ⟨i + 1, by simp, rfl, by omega, HN.out, rfl⟩
      · have HN : Hid (ws s (i + 1) = ws s 0) := Lib.hid (by rw [← HWS.out, HUN.out, if_pos hw])
        clear hw
        go_wp2_with fail
        go_roundg (s.size - (i + 1))
        case measure => omega
        case rel => exact ⟨i + 1, by simp, rfl, by omega, HN.out, rfl⟩
      · have HN : Hid (ws s 0 = i) := Lib.hid (by rw [← HWS.out, HUN.out, hw]; rfl)
        clear hw
        go_wp2_with fail
        have hrz : (s.extract i s.size).size = s.size - i := by rw [ByteArray.size_extract]; omega
        have HRZ := Lib.hid hrz
        clear hrz
        go_loopg [4] (s.size - i) (fun k v wr => ∃ j : Nat, v = .int .i64 j ∧ k = j + 0 ∧ j ≤ s.size - i ∧ wsr (s.extract i s.size) j = wsr (s.extract i s.size) (s.size - i) ∧ w = wr)
        case atStart => exact ⟨_, rfl, rfl, Nat.le_refl _, rfl, rfl⟩
        case round =>
          obtain ⟨j, rfl, hkj, hj, hwr, rfl⟩ := hrel
          have HKJ := Lib.hid hkj
          have OUT : ∀ k, wsr (s.extract i s.size) (s.size - i) = k → Hid ((s.extract i s.size).extract 0 k = trimB s) := fun k hk => Lib.hid (by unfold trimB trimR trimL; rw [HN.out, HRZ.out, hk])
          have hj9 := hj
          rw [← HRZ.out] at hj9
          generalize s.extract i s.size = r at *
          have HWR := Lib.hid hwr
          clear hwr hkj
          by_cases h0 : 0 < j
          · have x1 : IntKind.i64.wrap ((j : Int) - 1) = (j : Int) - 1 := IntWalk.i64_in _ (by omega)
            have x2 : (0 : Int) ≤ (j : Int) - 1 := by omega
            have x3 : ((j : Int) - 1).toNat = j - 1 := by omega
            have x4 : (j : Int) - 1 < r.size := by omega
            have x5 : (0 : Int) < j := by omega
            have X6 : Hid (((j - 1 : Nat) : Int) = (j : Int) - 1) := Lib.hid (by omega)
            have HUN := Lib.hid (wsr_at r j h0 hj9)
            rcases w_cases (r[j - 1]'(by omega)) with ⟨hw, d⟩ | ⟨hw, d, d2⟩ | ⟨hw, d, d2⟩
            · have HM : Hid (wsr r (j - 1) = wsr r (s.size - i)) := Lib.hid (by rw [← HWR.out, HUN.out, if_pos hw])
              clear hw OUT
              go_wp2_with fail
              go_roundg (j - 1 + 0)
              case measure => have := HKJ.out; omega
              case rel => exact ⟨j - 1, by rw [X6.out], rfl, by omega, HM.out, rfl⟩
            · have HM : Hid (wsr r (j - 1) = wsr r (s.size - i)) := Lib.hid (by rw [← HWR.out, HUN.out, if_pos hw])
              clear hw OUT
              go_wp2_with fail
              go_roundg (j - 1 + 0)
              case measure => have := HKJ.out; omega
              case rel => exact ⟨j - 1, by rw [X6.out], rfl, by omega, HM.out, rfl⟩
            · have HO := OUT j (by rw [← HWR.out, HUN.out, hw]; rfl)
              have x7 : (j : Int) ≤ r.size := by omega
              have x8 : (0 : Int) ≤ j := by omega
              clear hw OUT
              go_wp2_with fail
              go_ret
              exact ⟨by rw [← HO.out]; rfl, rfl⟩
          · have hj0 : j = 0 := by omega
            subst hj0
            have HO := OUT 0 (by rw [← HWR.out]; rfl)
            clear OUT
            go_wp2_with fail
            go_ret
            refine ⟨congrArg (fun t => Ending.returned (Value.string t)) (?_ : ByteArray.empty = trimB s), rfl⟩
            rw [← HO.out]
            simp
    · have w1 : ¬ ((i : Int) < s.size) := by omega
      have HN : Hid (ws s 0 = i) := Lib.hid (by rw [← HWS.out, ws, dif_neg hlt])
      go_wp2_with fail
      have hrz : (s.extract i s.size).size = s.size - i := by rw [ByteArray.size_extract]; omega
      have HRZ := Lib.hid hrz
      clear hrz
      go_loopg [4] (s.size - i) (fun k v wr => ∃ j : Nat, v = .int .i64 j ∧ k = j + 0 ∧ j ≤ s.size - i ∧ wsr (s.extract i s.size) j = wsr (s.extract i s.size) (s.size - i) ∧ w = wr)
      case atStart => exact ⟨_, rfl, rfl, Nat.le_refl _, rfl, rfl⟩
      case round =>
        obtain ⟨j, rfl, hkj, hj, hwr, rfl⟩ := hrel
        have HKJ := Lib.hid hkj
        have OUT : ∀ k, wsr (s.extract i s.size) (s.size - i) = k → Hid ((s.extract i s.size).extract 0 k = trimB s) := fun k hk => Lib.hid (by unfold trimB trimR trimL; rw [HN.out, HRZ.out, hk])
        have hj9 := hj
        rw [← HRZ.out] at hj9
        generalize s.extract i s.size = r at *
        have HWR := Lib.hid hwr
        clear hwr hkj
        have hj0 : j = 0 := by omega
        subst hj0
        have HO := OUT 0 (by rw [← HWR.out]; rfl)
        clear OUT
        go_wp2_with fail
        go_ret
        refine ⟨congrArg (fun t => Ending.returned (Value.string t)) (?_ : ByteArray.empty = trimB s), rfl⟩
        rw [← HO.out]
        simp

set_option maxHeartbeats 2000000 in
theorem trimString_any (b i : Nat) (text : ByteArray) (nl : Int) (w : World) (hs : text.size ≤ 1000000) (hi : i ≤ text.size) (hL : LineAt w b i text nl) :
    Calls Tryz.prog 190 #[.pointer (some ⟨b, 0, none⟩)] w fun e w' => e = .returned (.string (trimB (text.extract i text.size))) ∧ ∃ n, w' = w.drewN n := by
  obtain ⟨h0, h1, h2, h3, h4, hf0, hf1, hf2, hf3, hf4, hbl⟩ := hL.facts
  have hz : (text.extract i text.size).size ≤ 100000000 := by simp; omega
  go_enter Tryz.func190, Tryz.ntmps190
  go_wp2_with fail
  go_quiet ((go_at_call 74; exact Calls.quiet_of_same ((trimSpaceTab_any _ _ hz).mono (fun _ _ h => ⟨h.1, h.2.symm⟩))))
  go_wp2
  go_ret
  exact ⟨rfl, _, rfl⟩

theorem EntAt.ne {w : World} {b T : Nat} {cs : Array Value} (h : EntAt w) (hb : Blk w b cs T) (hx : (∃ k n, cs[0]? = some (.int k n)) ∨ (∃ a, cs[0]? = some (.pointer a)) ∨ cs[1]? = none) : 1 ≠ b := by
  rintro rfl
  obtain ⟨h1, h2⟩ := h 0 _ rfl
  have e1 := (hb.cell 0).symm.trans h1
  have e2 := (hb.cell 1).symm.trans h2
  rcases hx with ⟨k, n, hx⟩ | ⟨a, hx⟩ | hx
  · rw [hx] at e1; cases e1
  · rw [hx] at e1; cases e1
  · rw [hx] at e2; cases e2

/-- How many signs c stand from place i on. -/
def runC (s : ByteArray) (c : UInt8) (i : Nat) : Nat := if h : i < s.size then (if s[i] = c then runC s c (i + 1) + 1 else 0) else 0
termination_by s.size - i

theorem runC_yes {s : ByteArray} {c : UInt8} {i : Nat} (h : i < s.size) (hc : s[i] = c) : runC s c i = runC s c (i + 1) + 1 := by
  rw [runC, dif_pos h, if_pos hc]
theorem runC_no {s : ByteArray} {c : UInt8} {i : Nat} (h : ∀ h : i < s.size, s[i] ≠ c) : runC s c i = 0 := by
  rw [runC]
  split
  · rename_i hi; rw [if_neg (h hi)]
  · rfl
theorem runC_le (s : ByteArray) (c : UInt8) : ∀ (n i : Nat), s.size - i = n → i ≤ s.size → i + runC s c i ≤ s.size
  | 0, i, hn, hi => by rw [runC_no (fun h => by omega)]; omega
  | n + 1, i, hn, hi => by
    have h : i < s.size := by omega
    by_cases hc : s[i] = c
    · rw [runC_yes h hc]
      have := runC_le s c n (i + 1) (by omega) (by omega)
      omega
    · rw [runC_no (fun _ => hc)]; omega
theorem runC_list (s : ByteArray) (c : UInt8) : ∀ (n i : Nat), s.size - i = n → i ≤ s.size → s.data.toList.drop i = List.replicate (runC s c i) c ++ s.data.toList.drop (i + runC s c i)
  | 0, i, hn, hi => by rw [runC_no (fun h => by omega)]; simp
  | n + 1, i, hn, hi => by
    have h : i < s.size := by omega
    have h' : i < s.data.toList.length := h
    by_cases hc : s[i] = c
    · rw [runC_yes h hc, List.drop_eq_getElem_cons h', runC_list s c n (i + 1) (by omega) (by omega), List.replicate_succ, List.cons_append]
      have e : s.data.toList[i] = c := hc
      rw [e, show i + 1 + runC s c (i + 1) = i + (runC s c (i + 1) + 1) by omega]
    · rw [runC_no (fun _ => hc)]; simp

/-- The sign at the place where a fence may begin, how many of it stand there, and the word behind them. -/
def fencC (text : ByteArray) : UInt8 := at0 text (p3 text 0)
def fencM (text : ByteArray) : Nat := runC text (fencC text) (p3 text 0)
def fencR (text : ByteArray) : ByteArray := unE (trimB (text.extract (p3 text 0 + fencM text) text.size))
/-- The fence that a line is, and its word. -/
def fenceOf (text : ByteArray) : Option (ByteArray × ByteArray) :=
  if (fencC text = 96 ∨ fencC text = 126) ∧ 3 ≤ fencM text then
    (if fencC text = 96 ∧ 0 ≤ idx1 (fencR text) 96 then none else some ((text.extract (p3 text 0) text.size).extract 0 (fencM text), trimB (fencR text)))
  else none

theorem fenceOf_tick {text r1 r2 : ByteArray} {P m : Nat} (hP : p3 text 0 = P) (hq : at0 text P = 96) (hr : runC text 96 P = m) (h1 : trimB (text.extract (P + m) text.size) = r1) (h2 : unE r1 = r2) (h : 0 ≤ idx1 r2 96) : fenceOf text = none := by
  have e1 : fencC text = 96 := by unfold fencC; rw [hP]; exact hq
  have e2 : fencM text = m := by unfold fencM; rw [e1, hP]; exact hr
  have e3 : fencR text = r2 := by unfold fencR; rw [e2, hP, h1]; exact h2
  unfold fenceOf
  split
  · rw [if_pos ⟨e1, by rw [e3]; exact h⟩]
  · rfl
theorem fenceOf_yes {text r1 r2 : ByteArray} {P m : Nat} {c : UInt8} (hc : c = 96 ∨ c = 126) (hP : p3 text 0 = P) (hq : at0 text P = c) (hr : runC text c P = m) (h3 : 3 ≤ m) (h1 : trimB (text.extract (P + m) text.size) = r1) (h2 : unE r1 = r2) (h : c = 96 → ¬ 0 ≤ idx1 r2 96) :
    fenceOf text = some ((text.extract P text.size).extract 0 m, trimB r2) := by
  have e1 : fencC text = c := by unfold fencC; rw [hP]; exact hq
  have e2 : fencM text = m := by unfold fencM; rw [e1, hP]; exact hr
  have e3 : fencR text = r2 := by unfold fencR; rw [e2, hP, h1]; exact h2
  unfold fenceOf
  rw [if_pos ⟨by rw [e1]; exact hc, by rw [e2]; exact h3⟩, if_neg (by rw [e1, e3]; exact fun hh => h hh.1 hh.2), e2, e3, hP]
theorem fenceOf_few {text : ByteArray} {P m : Nat} {c : UInt8} (hP : p3 text 0 = P) (hq : at0 text P = c) (hr : runC text c P = m) (h3 : ¬ 3 ≤ m) : fenceOf text = none := by
  have e1 : fencC text = c := by unfold fencC; rw [hP]; exact hq
  have e2 : fencM text = m := by unfold fencM; rw [e1, hP]; exact hr
  unfold fenceOf
  rw [if_neg (by rw [e2]; exact fun hh => h3 hh.2)]
theorem fenceOf_other {text : ByteArray} {P : Nat} (hP : p3 text 0 = P) (h1 : at0 text P ≠ 96) (h2 : at0 text P ≠ 126) : fenceOf text = none := by
  have e1 : fencC text = at0 text P := by unfold fencC; rw [hP]
  unfold fenceOf
  rw [if_neg (by rw [e1]; exact fun hh => hh.1.elim h1 h2)]

def FencePost (w : World) (b bn bf bi : Nat) (text : ByteArray) (nl : Int) (e : Ending) (w' : World) : Prop := match fenceOf text with
  | none => e = .returned (.bool false) ∧ Mods (fun k => k = bn) w w' ∧ ∃ y : Nat, y ≤ 3 ∧ Blk w' bn #[.int .i64 y] 3
  | some (f, info) => e = .returned (.bool true) ∧ Mods (fun k => k = bn ∨ k = b ∨ k = bf ∨ k = bi) w w' ∧ LineAt w' b 0 ⟨#[]⟩ 0 ∧ Blk w' bf #[.string f] 9 ∧ Blk w' bi #[.string info] 9 ∧ Blk w' bn #[.int .i64 (lead text 0 3 : Nat)] 3
theorem FencePost.no {w w' : World} {b bn bf bi : Nat} {text : ByteArray} {nl : Int} (h : fenceOf text = none) (hm : Mods (fun k => k = bn) w w') (y : Nat) (hy : y ≤ 3) (hn : Blk w' bn #[.int .i64 y] 3) : FencePost w b bn bf bi text nl (.returned (.bool false)) w' := by
  unfold FencePost
  rw [h]
  exact ⟨rfl, hm, y, hy, hn⟩
theorem FencePost.yes {w w' : World} {b bn bf bi y : Nat} {text f info : ByteArray} {nl : Int} (h : fenceOf text = some (f, info)) (hm : Mods (fun k => k = bn ∨ k = b ∨ k = bf ∨ k = bi) w w') (hy : y = lead text 0 3) (hl : LineAt w' b 0 ⟨#[]⟩ 0)
    (hf : Blk w' bf #[.string f] 9) (hi : Blk w' bi #[.string info] 9) (hn : Blk w' bn #[.int .i64 y] 3) : FencePost w b bn bf bi text nl (.returned (.bool true)) w' := by
  subst hy
  unfold FencePost
  rw [h]
  exact ⟨rfl, hm, hl, hf, hi, hn⟩

theorem sub_sub (s : ByteArray) (P k : Nat) (h : P + k ≤ s.size) : ((s.extract P s.size).extract 0 k).data.toList = (s.data.toList.drop P).take k := by
  rw [Lib.extract_data, Lib.extract_data, List.drop_zero, Nat.sub_zero, List.take_take, Nat.min_eq_left (by omega)]

theorem run_cut {text : ByteArray} {c : UInt8} {P m : Nat} (h : P + m ≤ text.size) (hr : runC text c P = m) : ((text.extract P text.size).extract 0 m).data.toList = List.replicate m c := by
  rw [sub_sub text P m h, runC_list text c _ P rfl (by omega), hr]
  rw [List.take_left' (by simp)]

theorem fenceOf_some {text f info : ByteArray} (h : fenceOf text = some (f, info)) : (fencC text = 96 ∨ fencC text = 126) ∧ 3 ≤ fencM text ∧ (text.extract (p3 text 0) text.size).extract 0 (fencM text) = f := by
  unfold fenceOf at h
  split at h
  · rename_i h1
    split at h
    · cases h
    · have e := Option.some.inj h
      exact ⟨h1.1, h1.2, congrArg Prod.fst e⟩
  · cases h

/-- Of a fence: its signs. -/
def FenceYes (text f : ByteArray) : Prop := ∃ c : UInt8, (c = 96 ∨ c = 126) ∧ 3 ≤ runC text c (p3 text 0) ∧ f.data.toList = List.replicate (runC text c (p3 text 0)) c
theorem fenceOf_facts {text f info : ByteArray} (h : fenceOf text = some (f, info)) : FenceYes text f := by
  obtain ⟨h1, h2, h3⟩ := fenceOf_some h
  have hm : fencM text = runC text (fencC text) (p3 text 0) := rfl
  have hle := (p3_le (text := text) (i := 0) (Nat.zero_le _)).2
  rw [hm] at h2 h3
  have hrl := runC_le text (fencC text) (text.size - p3 text 0) (p3 text 0) rfl hle
  exact ⟨fencC text, h1, h2, by rw [← h3]; exact run_cut hrl rfl⟩

set_option maxRecDepth 100000 in
set_option maxHeartbeats 8000000 in
theorem trimFence_any (b bn bf bi : Nat) (x : Int) (f0 i0 : ByteArray) (text : ByteArray) (nl : Int) (w : World) (hT : Txt text) (hs9 : text.size ≤ 80000) (hL : LineAt w b 0 text nl)
    (hn : Blk w bn #[.int .i64 x] 3) (hf : Blk w bf #[.string f0] 9) (hi : Blk w bi #[.string i0] 9) (hfi : bf ≠ bi) (hE : EntAt w) :
    Calls Tryz.prog 151 #[.pointer (some ⟨b, 0, none⟩), .pointer (some ⟨bf, 0, none⟩), .pointer (some ⟨bi, 0, none⟩), .pointer (some ⟨bn, 0, none⟩)] w (FencePost w b bn bf bi text nl) := by
  obtain ⟨h0, h1, h2, h3, h4, hf0, hf1, hf2, hf3, hf4, hbl⟩ := hL.facts
  have n0 : w.cell? ⟨bn, 0, none⟩ = some (.int .i64 x) := hn.cell 0
  have nf : w.frozen? ⟨bn, 0, none⟩ = false := hn.fr 0
  have nb : bn < w.heap.size := hn.lt
  have hnb : bn ≠ b := hn.ne_of_type hL (by decide)
  have hfb : bf ≠ b := hf.ne_of_type hL (by decide)
  have hib : bi ≠ b := hi.ne_of_type hL (by decide)
  have hfn : bf ≠ bn := hf.ne_of_type hn (by decide)
  have hin : bi ≠ bn := hi.ne_of_type hn (by decide)
  have hfl := hf.lt
  have hil := hi.lt
  have hE1 := hE.lt
  have hEn := hE.ne hn (Or.inl ⟨_, _, rfl⟩)
  go_enter Tryz.func151, Tryz.ntmps151
  go_wp2
  go_loopg [] 3 (fun g wr => ∃ k : Nat, g = 3 - k ∧ FRel w wr w.heap.size bn text 0 k nl)
  case atStart =>
    refine ⟨0, rfl, by omega, rfl, ?_, ?_, ?_⟩
    · exact ((Mods.refl (fun b => b = w.heap.size ∨ b = bn) w).setCell (p := ⟨bn, 0, none⟩) (fun _ => Or.inr rfl) _).alloc _
    · exact Blk.newAt _ _ (by simp)
    · exact (hn.set_same 0 _).alloc _
  case round =>
    obtain ⟨k, hg, hk3, hlk, hmw, hlw, hnw⟩ := hrel
    have HG := Lib.hid hg
    have HK := Lib.hid hlk
    clear hg hlk h0 h1 h2 h3 h4 hf0 hf1 hf2 hf3 hf4 n0 nf
    have n0 : wr.cell? ⟨bn, 0, none⟩ = some (.int .i64 k) := hnw.cell 0
    have nf : wr.frozen? ⟨bn, 0, none⟩ = false := hnw.fr 0
    have nbw : bn < wr.heap.size := hnw.lt
    have hik : 0 + k ≤ text.size := by have := (lead_le text k 0).2 (Nat.zero_le _); have := HK.out; omega
    by_cases hlt : k < 3
    · go_wp2_with fail
      refine (trimSpace_11 _ text (0 + k) false nl wr hik hT hlw).mono ?_
      rintro e w1 (⟨hs, rfl, hm1, hl1⟩ | ⟨hs, rfl, hm1, hl1⟩)
      · have hn1 := hnw.keep1 hm1 (by omega)
        clear n0 nf nbw
        have n0 : w1.cell? ⟨bn, 0, none⟩ = some (.int .i64 k) := hn1.cell 0
        have nf : w1.frozen? ⟨bn, 0, none⟩ = false := hn1.fr 0
        have nbw : bn < w1.heap.size := hn1.lt
        have HS := Lib.hid hs
        clear hs hL hn hf hi hE
        go_wp2
        go_roundg (3 - (k + 1))
        case measure => have := HG.out; omega
        case rel =>
          refine ⟨k + 1, rfl, by omega, lead_one HK.out HS.out, ?_, ?_, ?_⟩
          · exact (hmw.then hm1 (by intro b _ hb; exact Or.inl hb)).setCell (p := ⟨bn, 0, none⟩) (fun _ => Or.inr rfl) _
          · exact Blk.set_other hl1 (by show bn ≠ _; omega) _
          · exact hn1.set_same 0 _
      · have e1 : lead text 0 3 = k := by
          have := lead_all (m := 3 - k) HK.out hs
          rwa [show k + (3 - k) = 3 by omega] at this
        have hn1 := hnw.keep1 hm1 (by omega)
        have hp : 0 + k = p3 text 0 := by unfold p3; rw [e1]
        have hmm : Mods (fun j => j = w.heap.size ∨ j = bn) w w1 := hmw.then hm1 (by intro b _ hb; exact Or.inl hb)
        have HY := Lib.hid e1.symm
        clear e1 hs n0 nf nbw
        rw [hp] at hl1
        clear hp hmw hm1 hlw hnw hlt
        go_wp2_with fail
        refine (peek_any _ _ _ _ _ hT.size hl1).mono ?_
        rintro e w2 ⟨rfl, nd, rfl⟩
        have hl2 : LineAt (w1.drewN nd) w.heap.size (p3 text 0) text nl := Blk.drewN hl1 nd
        have hn2 : Blk (w1.drewN nd) bn #[.int .i64 (k : Nat)] 3 := hn1.drewN nd
        have hm2 := hmm.drewN nd
        have hno_mods : ∀ W, Mods (fun j => j = w.heap.size ∨ j = bn) w W → Mods (fun j => j = bn) w W := fun W h => h.mono (fun k hk hs => by
          rcases hs with hs | hs
          · omega
          · exact hs)
        generalize (w1.drewN nd : World) = w2 at *
        clear hl1 hn1 hmm
        have HPP : ∃ P, Hid (p3 text 0 = P) := ⟨_, Lib.hid rfl⟩
        have hPle := (p3_le (text := text) (i := 0) (Nat.zero_le _)).2
        obtain ⟨P, HPP⟩ := HPP
        rw [HPP.out] at hl2 hPle ⊢
        by_cases hq : at0 text P = 96
        · have HQ := Lib.hid hq
          have hPs : P < text.size := by
            obtain ⟨h, _⟩ := at0_lt hq (by decide)
            exact h
          have hcz : ((at0 text P).toNat : Int) = 96 := by rw [hq]; rfl
          go_wp2_with fail
          refine (lineString_any _ _ _ _ _ hT.size (Nat.le_of_lt hPs) hl2).mono ?_
          rintro e w3 ⟨rfl, n3, rfl⟩
          have hl3 : LineAt (w2.drewN n3) w.heap.size P text nl := Blk.drewN hl2 n3
          have hn3 : Blk (w2.drewN n3) bn #[.int .i64 (k : Nat)] 3 := hn2.drewN n3
          have hm3 := hm2.drewN n3
          generalize (w2.drewN n3 : World) = w3 at *
          clear hl2 hn2 hm2
          go_wp2_with fail
          go_loopg [12, 13] text.size (fun g v12 v13 wx => ∃ m : Nat, v12 = .int .i64 m ∧ v13 = .int .i64 m ∧ g = text.size - m ∧ P + m ≤ text.size ∧ runC text 96 P = m + runC text 96 (P + m) ∧ Mods (fun j => j = w.heap.size ∨ j = bn) w wx ∧ LineAt wx w.heap.size (P + m) text nl ∧ Blk wx bn #[.int .i64 (k : Nat)] 3)
          case atStart => exact ⟨0, rfl, rfl, rfl, by omega, by rw [Nat.add_zero]; omega, hm3, hl3, hn3⟩
          case round =>
            clear hl3 hn3 hm3
            obtain ⟨m, rfl, rfl, hgm, hPm, hrun, hmx, hlx, hnx⟩ := hrel
            have HGM := Lib.hid hgm
            have HRUN := Lib.hid hrun
            clear hgm hrun
            have z1 : IntKind.i64.wrap ((m : Int) + 1) = (m : Int) + 1 := IntWalk.i64_in _ (by omega)
            by_cases hy : ∃ h : P + m < text.size, text[P + m] = 96
            · obtain ⟨hy1, hy2⟩ := hy
              have HY2 := Lib.hid hy2
              have HR2 := Lib.hid (runC_yes hy1 hy2)
              clear hy2
              go_wp2_with fail
              refine (trim_yes _ _ text 96 nl _ hT.size hlx hy1 (by rw [HY2.out]; rfl)).mono ?_
              rintro e w4 ⟨rfl, hm4, hl4⟩
              have hn4 := hnx.keep1 hm4 (by omega)
              go_wp2_with fail
              go_roundg (text.size - (m + 1))
              case measure => have := HGM.out; omega
              case rel => exact ⟨m + 1, by simp, by simp, rfl, by omega, by rw [HRUN.out, HR2.out, show P + (m + 1) = P + m + 1 by omega]; omega, hmx.then hm4 (fun _ _ h => Or.inl h), hl4, hn4⟩
            · have hzero := runC_no (s := text) (c := 96) (i := P + m) (fun h e => hy ⟨h, e⟩)
              have RUN : Hid (runC text 96 P = m) := Lib.hid (by rw [HRUN.out, hzero, Nat.add_zero])
              have hne : ∀ h : P + m < text.size, (text[P + m].toNat : Int) ≠ 96 := fun h e => hy ⟨h, UInt8.toNat_inj.1 (by show _ = 96; omega)⟩
              clear hzero hy
              go_wp2_with fail
              refine (trim_no _ _ text 96 nl _ hPm hlx hne).mono ?_
              rintro e w4 ⟨rfl, n4, rfl⟩
              have hlD : LineAt (wr.drewN n4) w.heap.size (P + m) text nl := Blk.drewN hlx n4
              have hnD : Blk (wr.drewN n4) bn #[.int .i64 (k : Nat)] 3 := hnx.drewN n4
              have hmD := hmx.drewN n4
              generalize (wr.drewN n4 : World) = wD at *
              clear hlx hnx hmx hne
              by_cases h3 : 3 ≤ m
              · have h3' : (3 : Int) ≤ m := by omega
                go_wp2_with fail
                refine (trimString_any _ _ text nl wD hT.size hPm hlD).mono ?_
                rintro e w4 ⟨rfl, n5, rfl⟩
                obtain ⟨r1, R1⟩ : ∃ r, Hid (trimB (text.extract (P + m) text.size) = r) := ⟨_, Lib.hid rfl⟩
                have hr1 : (trimB (text.extract (P + m) text.size)).size ≤ text.size - (P + m) := by
                  have := trimB_le (text.extract (P + m) text.size)
                  rw [ByteArray.size_extract] at this
                  omega
                have hm4 : Same wD (wD.drewN n5) := (Mods.refl _ wD).drewN n5
                rw [R1.out] at hr1 ⊢
                generalize (wD.drewN n5 : World) = w4 at *
                have hE4 : EntAt w4 := (hE.of_mods hmD (fun h => h.elim (fun h => by omega) hEn)).same hm4
                go_wp2_with fail
                refine (unescape_any r1 w4 (by omega) hE4).mono ?_
                rintro e w5 ⟨rfl, hm5⟩
                obtain ⟨r2, R2⟩ : ∃ r, Hid (unE r1 = r) := ⟨_, Lib.hid rfl⟩
                have hr2 := unE_size r1
                rw [R2.out] at hr2 ⊢
                have hm45 := hm4.trans hm5
                have hn5 : Blk w5 bn #[.int .i64 (k : Nat)] 3 := Same.blk hm45 hnD
                have MN := Lib.hid (hno_mods _ (hmD.then hm45 (fun _ _ h => absurd h (fun x => x))))
                have hb5 : LineAt w5 b 0 text nl := Blk.keep hL MN.out (Ne.symm hnb)
                have hf5 : Blk w5 bf #[.string f0] 9 := hf.keep MN.out hfn
                have hi5 : Blk w5 bi #[.string i0] 9 := hi.keep MN.out hin
                clear hm4 hm5 hm45 hE4 hmD hnD hlD
                go_wp2_with fail
                refine (zzContains_any r2 96 w5 (by omega)).mono ?_
                rintro e w' ⟨rfl, rfl⟩
                obtain ⟨bb, BB⟩ : ∃ bb, Hid (decide (0 ≤ idx1 r2 96) = bb) := ⟨_, Lib.hid rfl⟩
                rw [BB.out]
                cases bb
                case true =>
                  go_wp2_with fail
                  go_ret
                  exact FencePost.no (fenceOf_tick HPP.out hq RUN.out R1.out R2.out (of_decide_eq_true BB.out)) MN.out k (by omega) hn5
                case false =>
                  go_wp2_with fail
                  refine (trimSpaceTab_any r2 w5 (by omega)).mono ?_
                  rintro e w' ⟨rfl, rfl⟩
                  have R3 := Lib.hid (fenceOf_yes (Or.inl rfl) HPP.out hq RUN.out h3 R1.out R2.out (fun _ => of_decide_eq_false BB.out))
                  generalize trimB r2 = r3 at *
                  have bi0 : w5.cell? ⟨bi, 0, none⟩ = some (.string i0) := hi5.cell 0
                  have bf0 : w5.cell? ⟨bf, 0, none⟩ = some (.string f0) := hf5.cell 0
                  have bi1 := hi5.fr 0
                  have bf1 := hf5.fr 0
                  have bil := hi5.lt
                  have bfl := hf5.lt
                  obtain ⟨g0, g1, g2, g3, g4, gf0, gf1, gf2, gf3, gf4, gbl⟩ := LineAt.facts hb5
                  have y1 : (m : Int) ≤ (text.extract P text.size).size := by rw [ByteArray.size_extract]; omega
                  have y2 : (0 : Int) ≤ m := by omega
                  go_wp2_with fail
                  go_ret
                  have hi6 := hi5.set_same 0 (.string r3)
                  have hf6 : Blk (w5.setCell ⟨bi, 0, none⟩ (.string r3)) bf #[.string f0] 9 := hf5.set_other (a := ⟨bi, 0, none⟩) (Ne.symm hfi) _
                  have hb6 : LineAt (w5.setCell ⟨bi, 0, none⟩ (.string r3)) b 0 text nl := Blk.set_other hb5 (a := ⟨bi, 0, none⟩) hib _
                  have hn6 : Blk (w5.setCell ⟨bi, 0, none⟩ (.string r3)) bn #[.int .i64 (k : Nat)] 3 := hn5.set_other (a := ⟨bi, 0, none⟩) hin _
                  have hf7 := hf6.set_same 0 (.string ((text.extract P text.size).extract 0 m))
                  have hi7 := hi6.set_other (a := ⟨bf, 0, none⟩) hfi (.string ((text.extract P text.size).extract 0 m))
                  have hb7 : LineAt ((w5.setCell ⟨bi, 0, none⟩ (.string r3)).setCell ⟨bf, 0, none⟩ (.string ((text.extract P text.size).extract 0 m))) b 0 text nl := Blk.set_other hb6 (a := ⟨bf, 0, none⟩) hfb _
                  have hn7 := hn6.set_other (a := ⟨bf, 0, none⟩) hfn (.string ((text.extract P text.size).extract 0 m))
                  have hm7 : Mods (fun k => k = bn ∨ k = b ∨ k = bf ∨ k = bi) w ((w5.setCell ⟨bi, 0, none⟩ (.string r3)).setCell ⟨bf, 0, none⟩ (.string ((text.extract P text.size).extract 0 m))) :=
                    ((MN.out.mono (S' := fun k => k = bn ∨ k = b ∨ k = bf ∨ k = bi) (fun _ _ h => Or.inl h)).setCell (p := ⟨bi, 0, none⟩) (fun _ => Or.inr (Or.inr (Or.inr rfl))) _).setCell (p := ⟨bf, 0, none⟩) (fun _ => Or.inr (Or.inr (Or.inl rfl))) _
                  generalize ((w5.setCell ⟨bi, 0, none⟩ (.string r3)).setCell ⟨bf, 0, none⟩ (.string ((text.extract P text.size).extract 0 m)) : World) = w7 at *
                  have hP5 := put5 hb7 0 ⟨#[]⟩ 0
                  exact FencePost.yes R3.out (hm7.then hP5.1 (fun _ _ h => Or.inr (Or.inl h))) HY.out hP5.2 (hf7.keep1 hP5.1 hfb) (hi7.keep1 hP5.1 hib) (hn7.keep1 hP5.1 hnb)
              · have h3' : ¬ ((3 : Int) ≤ m) := by omega
                go_wp2_with fail
                go_ret
                exact FencePost.no (fenceOf_few HPP.out hq RUN.out h3) (hno_mods _ hmD) k (by omega) hnD
        · by_cases hq2 : at0 text P = 126
          · have hq := hq2
            have hPs : P < text.size := by
              obtain ⟨h, _⟩ := at0_lt hq (by decide)
              exact h
            have hcz : ((at0 text P).toNat : Int) = 126 := by rw [hq]; rfl
            go_wp2_with fail
            refine (lineString_any _ _ _ _ _ hT.size (Nat.le_of_lt hPs) hl2).mono ?_
            rintro e w3 ⟨rfl, n3, rfl⟩
            have hl3 : LineAt (w2.drewN n3) w.heap.size P text nl := Blk.drewN hl2 n3
            have hn3 : Blk (w2.drewN n3) bn #[.int .i64 (k : Nat)] 3 := hn2.drewN n3
            have hm3 := hm2.drewN n3
            generalize (w2.drewN n3 : World) = w3 at *
            clear hl2 hn2 hm2
            go_wp2_with fail
            go_loopg [12, 13] text.size (fun g v12 v13 wx => ∃ m : Nat, v12 = .int .i64 m ∧ v13 = .int .i64 m ∧ g = text.size - m ∧ P + m ≤ text.size ∧ runC text 126 P = m + runC text 126 (P + m) ∧ Mods (fun j => j = w.heap.size ∨ j = bn) w wx ∧ LineAt wx w.heap.size (P + m) text nl ∧ Blk wx bn #[.int .i64 (k : Nat)] 3)
            case atStart => exact ⟨0, rfl, rfl, rfl, by omega, by rw [Nat.add_zero]; omega, hm3, hl3, hn3⟩
            case round =>
              clear hl3 hn3 hm3
              obtain ⟨m, rfl, rfl, hgm, hPm, hrun, hmx, hlx, hnx⟩ := hrel
              have HGM := Lib.hid hgm
              have HRUN := Lib.hid hrun
              clear hgm hrun
              have z1 : IntKind.i64.wrap ((m : Int) + 1) = (m : Int) + 1 := IntWalk.i64_in _ (by omega)
              by_cases hy : ∃ h : P + m < text.size, text[P + m] = 126
              · obtain ⟨hy1, hy2⟩ := hy
                have HY2 := Lib.hid hy2
                have HR2 := Lib.hid (runC_yes hy1 hy2)
                clear hy2
                go_wp2_with fail
                refine (trim_yes _ _ text 126 nl _ hT.size hlx hy1 (by rw [HY2.out]; rfl)).mono ?_
                rintro e w4 ⟨rfl, hm4, hl4⟩
                have hn4 := hnx.keep1 hm4 (by omega)
                go_wp2_with fail
                go_roundg (text.size - (m + 1))
                case measure => have := HGM.out; omega
                case rel => exact ⟨m + 1, by simp, by simp, rfl, by omega, by rw [HRUN.out, HR2.out, show P + (m + 1) = P + m + 1 by omega]; omega, hmx.then hm4 (fun _ _ h => Or.inl h), hl4, hn4⟩
              · have hzero := runC_no (s := text) (c := 126) (i := P + m) (fun h e => hy ⟨h, e⟩)
                have RUN : Hid (runC text 126 P = m) := Lib.hid (by rw [HRUN.out, hzero, Nat.add_zero])
                have hne : ∀ h : P + m < text.size, (text[P + m].toNat : Int) ≠ 126 := fun h e => hy ⟨h, UInt8.toNat_inj.1 (by show _ = 126; omega)⟩
                clear hzero hy
                go_wp2_with fail
                refine (trim_no _ _ text 126 nl _ hPm hlx hne).mono ?_
                rintro e w4 ⟨rfl, n4, rfl⟩
                have hlD : LineAt (wr.drewN n4) w.heap.size (P + m) text nl := Blk.drewN hlx n4
                have hnD : Blk (wr.drewN n4) bn #[.int .i64 (k : Nat)] 3 := hnx.drewN n4
                have hmD := hmx.drewN n4
                generalize (wr.drewN n4 : World) = wD at *
                clear hlx hnx hmx hne
                by_cases h3 : 3 ≤ m
                · have h3' : (3 : Int) ≤ m := by omega
                  go_wp2_with fail
                  refine (trimString_any _ _ text nl wD hT.size hPm hlD).mono ?_
                  rintro e w4 ⟨rfl, n5, rfl⟩
                  obtain ⟨r1, R1⟩ : ∃ r, Hid (trimB (text.extract (P + m) text.size) = r) := ⟨_, Lib.hid rfl⟩
                  have hr1 : (trimB (text.extract (P + m) text.size)).size ≤ text.size - (P + m) := by
                    have := trimB_le (text.extract (P + m) text.size)
                    rw [ByteArray.size_extract] at this
                    omega
                  have hm4 : Same wD (wD.drewN n5) := (Mods.refl _ wD).drewN n5
                  rw [R1.out] at hr1 ⊢
                  generalize (wD.drewN n5 : World) = w4 at *
                  have hE4 : EntAt w4 := (hE.of_mods hmD (fun h => h.elim (fun h => by omega) hEn)).same hm4
                  go_wp2_with fail
                  refine (unescape_any r1 w4 (by omega) hE4).mono ?_
                  rintro e w5 ⟨rfl, hm5⟩
                  obtain ⟨r2, R2⟩ : ∃ r, Hid (unE r1 = r) := ⟨_, Lib.hid rfl⟩
                  have hr2 := unE_size r1
                  rw [R2.out] at hr2 ⊢
                  have hm45 := hm4.trans hm5
                  have hn5 : Blk w5 bn #[.int .i64 (k : Nat)] 3 := Same.blk hm45 hnD
                  have MN := Lib.hid (hno_mods _ (hmD.then hm45 (fun _ _ h => absurd h (fun x => x))))
                  have hb5 : LineAt w5 b 0 text nl := Blk.keep hL MN.out (Ne.symm hnb)
                  have hf5 : Blk w5 bf #[.string f0] 9 := hf.keep MN.out hfn
                  have hi5 : Blk w5 bi #[.string i0] 9 := hi.keep MN.out hin
                  clear hm4 hm5 hm45 hE4 hmD hnD hlD
                  go_wp2_with fail
                  go_wp2_with fail
                  refine (trimSpaceTab_any r2 w5 (by omega)).mono ?_
                  rintro e w' ⟨rfl, rfl⟩
                  have R3 := Lib.hid (fenceOf_yes (Or.inr rfl) HPP.out hq RUN.out h3 R1.out R2.out (fun h => absurd h (by decide)))
                  generalize trimB r2 = r3 at *
                  have bi0 : w5.cell? ⟨bi, 0, none⟩ = some (.string i0) := hi5.cell 0
                  have bf0 : w5.cell? ⟨bf, 0, none⟩ = some (.string f0) := hf5.cell 0
                  have bi1 := hi5.fr 0
                  have bf1 := hf5.fr 0
                  have bil := hi5.lt
                  have bfl := hf5.lt
                  obtain ⟨g0, g1, g2, g3, g4, gf0, gf1, gf2, gf3, gf4, gbl⟩ := LineAt.facts hb5
                  have y1 : (m : Int) ≤ (text.extract P text.size).size := by rw [ByteArray.size_extract]; omega
                  have y2 : (0 : Int) ≤ m := by omega
                  go_wp2_with fail
                  go_ret
                  have hi6 := hi5.set_same 0 (.string r3)
                  have hf6 : Blk (w5.setCell ⟨bi, 0, none⟩ (.string r3)) bf #[.string f0] 9 := hf5.set_other (a := ⟨bi, 0, none⟩) (Ne.symm hfi) _
                  have hb6 : LineAt (w5.setCell ⟨bi, 0, none⟩ (.string r3)) b 0 text nl := Blk.set_other hb5 (a := ⟨bi, 0, none⟩) hib _
                  have hn6 : Blk (w5.setCell ⟨bi, 0, none⟩ (.string r3)) bn #[.int .i64 (k : Nat)] 3 := hn5.set_other (a := ⟨bi, 0, none⟩) hin _
                  have hf7 := hf6.set_same 0 (.string ((text.extract P text.size).extract 0 m))
                  have hi7 := hi6.set_other (a := ⟨bf, 0, none⟩) hfi (.string ((text.extract P text.size).extract 0 m))
                  have hb7 : LineAt ((w5.setCell ⟨bi, 0, none⟩ (.string r3)).setCell ⟨bf, 0, none⟩ (.string ((text.extract P text.size).extract 0 m))) b 0 text nl := Blk.set_other hb6 (a := ⟨bf, 0, none⟩) hfb _
                  have hn7 := hn6.set_other (a := ⟨bf, 0, none⟩) hfn (.string ((text.extract P text.size).extract 0 m))
                  have hm7 : Mods (fun k => k = bn ∨ k = b ∨ k = bf ∨ k = bi) w ((w5.setCell ⟨bi, 0, none⟩ (.string r3)).setCell ⟨bf, 0, none⟩ (.string ((text.extract P text.size).extract 0 m))) :=
                    ((MN.out.mono (S' := fun k => k = bn ∨ k = b ∨ k = bf ∨ k = bi) (fun _ _ h => Or.inl h)).setCell (p := ⟨bi, 0, none⟩) (fun _ => Or.inr (Or.inr (Or.inr rfl))) _).setCell (p := ⟨bf, 0, none⟩) (fun _ => Or.inr (Or.inr (Or.inl rfl))) _
                  generalize ((w5.setCell ⟨bi, 0, none⟩ (.string r3)).setCell ⟨bf, 0, none⟩ (.string ((text.extract P text.size).extract 0 m)) : World) = w7 at *
                  have hP5 := put5 hb7 0 ⟨#[]⟩ 0
                  exact FencePost.yes R3.out (hm7.then hP5.1 (fun _ _ h => Or.inr (Or.inl h))) HY.out hP5.2 (hf7.keep1 hP5.1 hfb) (hi7.keep1 hP5.1 hib) (hn7.keep1 hP5.1 hnb)
                · have h3' : ¬ ((3 : Int) ≤ m) := by omega
                  go_wp2_with fail
                  go_ret
                  exact FencePost.no (fenceOf_few HPP.out hq RUN.out h3) (hno_mods _ hmD) k (by omega) hnD
          · have d1 : ((at0 text P).toNat : Int) ≠ 96 := fun e => hq (UInt8.toNat_inj.1 (by show _ = 96; omega))
            have d2 : ((at0 text P).toNat : Int) ≠ 126 := fun e => hq2 (UInt8.toNat_inj.1 (by show _ = 126; omega))
            have e1 := bne_of d1
            have e2 := bne_of d2
            have HQ2 := Lib.hid hq2
            have HQ1 := Lib.hid hq
            clear d1 d2 hq hq2
            go_wp2_with fail
            go_ret
            exact FencePost.no (fenceOf_other HPP.out HQ1.out HQ2.out) (hno_mods _ hm2) k (by omega) hn2
    · have hk : k = 3 := by omega
      subst hk
      have e1 : lead text 0 3 = 3 := HK.out
      have hp : 0 + 3 = p3 text 0 := by unfold p3; rw [e1]
      have HY := Lib.hid e1.symm
      rw [hp] at hlw
      have hl1 := hlw
      have hn1 := hnw
      have hmm := hmw
      clear hp hmw hlw hnw hlt e1
      go_wp2_with fail
      clear n0 nf nbw
      refine (peek_any _ _ _ _ _ hT.size hl1).mono ?_
      rintro e w2 ⟨rfl, nd, rfl⟩
      have hl2 : LineAt (wr.drewN nd) w.heap.size (p3 text 0) text nl := Blk.drewN hl1 nd
      have hn2 : Blk (wr.drewN nd) bn #[.int .i64 (3 : Nat)] 3 := hn1.drewN nd
      have hm2 := hmm.drewN nd
      have hno_mods : ∀ W, Mods (fun j => j = w.heap.size ∨ j = bn) w W → Mods (fun j => j = bn) w W := fun W h => h.mono (fun k hk hs => by
        rcases hs with hs | hs
        · omega
        · exact hs)
      generalize (wr.drewN nd : World) = w2 at *
      clear hl1 hn1 hmm
      have HPP : ∃ P, Hid (p3 text 0 = P) := ⟨_, Lib.hid rfl⟩
      have hPle := (p3_le (text := text) (i := 0) (Nat.zero_le _)).2
      obtain ⟨P, HPP⟩ := HPP
      rw [HPP.out] at hl2 hPle ⊢
      by_cases hq : at0 text P = 96
      · have HQ := Lib.hid hq
        have hPs : P < text.size := by
          obtain ⟨h, _⟩ := at0_lt hq (by decide)
          exact h
        have hcz : ((at0 text P).toNat : Int) = 96 := by rw [hq]; rfl
        go_wp2_with fail
        refine (lineString_any _ _ _ _ _ hT.size (Nat.le_of_lt hPs) hl2).mono ?_
        rintro e w3 ⟨rfl, n3, rfl⟩
        have hl3 : LineAt (w2.drewN n3) w.heap.size P text nl := Blk.drewN hl2 n3
        have hn3 : Blk (w2.drewN n3) bn #[.int .i64 (3 : Nat)] 3 := hn2.drewN n3
        have hm3 := hm2.drewN n3
        generalize (w2.drewN n3 : World) = w3 at *
        clear hl2 hn2 hm2
        go_wp2_with fail
        go_loopg [12, 13] text.size (fun g v12 v13 wx => ∃ m : Nat, v12 = .int .i64 m ∧ v13 = .int .i64 m ∧ g = text.size - m ∧ P + m ≤ text.size ∧ runC text 96 P = m + runC text 96 (P + m) ∧ Mods (fun j => j = w.heap.size ∨ j = bn) w wx ∧ LineAt wx w.heap.size (P + m) text nl ∧ Blk wx bn #[.int .i64 (3 : Nat)] 3)
        case atStart => exact ⟨0, rfl, rfl, rfl, by omega, by rw [Nat.add_zero]; omega, hm3, hl3, hn3⟩
        case round =>
          clear hl3 hn3 hm3
          obtain ⟨m, rfl, rfl, hgm, hPm, hrun, hmx, hlx, hnx⟩ := hrel
          have HGM := Lib.hid hgm
          have HRUN := Lib.hid hrun
          clear hgm hrun
          have z1 : IntKind.i64.wrap ((m : Int) + 1) = (m : Int) + 1 := IntWalk.i64_in _ (by omega)
          by_cases hy : ∃ h : P + m < text.size, text[P + m] = 96
          · obtain ⟨hy1, hy2⟩ := hy
            have HY2 := Lib.hid hy2
            have HR2 := Lib.hid (runC_yes hy1 hy2)
            clear hy2
            go_wp2_with fail
            refine (trim_yes _ _ text 96 nl _ hT.size hlx hy1 (by rw [HY2.out]; rfl)).mono ?_
            rintro e w4 ⟨rfl, hm4, hl4⟩
            have hn4 := hnx.keep1 hm4 (by omega)
            go_wp2_with fail
            go_roundg (text.size - (m + 1))
            case measure => have := HGM.out; omega
            case rel => exact ⟨m + 1, by simp, by simp, rfl, by omega, by rw [HRUN.out, HR2.out, show P + (m + 1) = P + m + 1 by omega]; omega, hmx.then hm4 (fun _ _ h => Or.inl h), hl4, hn4⟩
          · have hzero := runC_no (s := text) (c := 96) (i := P + m) (fun h e => hy ⟨h, e⟩)
            have RUN : Hid (runC text 96 P = m) := Lib.hid (by rw [HRUN.out, hzero, Nat.add_zero])
            have hne : ∀ h : P + m < text.size, (text[P + m].toNat : Int) ≠ 96 := fun h e => hy ⟨h, UInt8.toNat_inj.1 (by show _ = 96; omega)⟩
            clear hzero hy
            go_wp2_with fail
            refine (trim_no _ _ text 96 nl _ hPm hlx hne).mono ?_
            rintro e w4 ⟨rfl, n4, rfl⟩
            have hlD : LineAt (wr.drewN n4) w.heap.size (P + m) text nl := Blk.drewN hlx n4
            have hnD : Blk (wr.drewN n4) bn #[.int .i64 (3 : Nat)] 3 := hnx.drewN n4
            have hmD := hmx.drewN n4
            generalize (wr.drewN n4 : World) = wD at *
            clear hlx hnx hmx hne
            by_cases h3 : 3 ≤ m
            · have h3' : (3 : Int) ≤ m := by omega
              go_wp2_with fail
              refine (trimString_any _ _ text nl wD hT.size hPm hlD).mono ?_
              rintro e w4 ⟨rfl, n5, rfl⟩
              obtain ⟨r1, R1⟩ : ∃ r, Hid (trimB (text.extract (P + m) text.size) = r) := ⟨_, Lib.hid rfl⟩
              have hr1 : (trimB (text.extract (P + m) text.size)).size ≤ text.size - (P + m) := by
                have := trimB_le (text.extract (P + m) text.size)
                rw [ByteArray.size_extract] at this
                omega
              have hm4 : Same wD (wD.drewN n5) := (Mods.refl _ wD).drewN n5
              rw [R1.out] at hr1 ⊢
              generalize (wD.drewN n5 : World) = w4 at *
              have hE4 : EntAt w4 := (hE.of_mods hmD (fun h => h.elim (fun h => by omega) hEn)).same hm4
              go_wp2_with fail
              refine (unescape_any r1 w4 (by omega) hE4).mono ?_
              rintro e w5 ⟨rfl, hm5⟩
              obtain ⟨r2, R2⟩ : ∃ r, Hid (unE r1 = r) := ⟨_, Lib.hid rfl⟩
              have hr2 := unE_size r1
              rw [R2.out] at hr2 ⊢
              have hm45 := hm4.trans hm5
              have hn5 : Blk w5 bn #[.int .i64 (3 : Nat)] 3 := Same.blk hm45 hnD
              have MN := Lib.hid (hno_mods _ (hmD.then hm45 (fun _ _ h => absurd h (fun x => x))))
              have hb5 : LineAt w5 b 0 text nl := Blk.keep hL MN.out (Ne.symm hnb)
              have hf5 : Blk w5 bf #[.string f0] 9 := hf.keep MN.out hfn
              have hi5 : Blk w5 bi #[.string i0] 9 := hi.keep MN.out hin
              clear hm4 hm5 hm45 hE4 hmD hnD hlD
              go_wp2_with fail
              refine (zzContains_any r2 96 w5 (by omega)).mono ?_
              rintro e w' ⟨rfl, rfl⟩
              obtain ⟨bb, BB⟩ : ∃ bb, Hid (decide (0 ≤ idx1 r2 96) = bb) := ⟨_, Lib.hid rfl⟩
              rw [BB.out]
              cases bb
              case true =>
                go_wp2_with fail
                go_ret
                exact FencePost.no (fenceOf_tick HPP.out hq RUN.out R1.out R2.out (of_decide_eq_true BB.out)) MN.out 3 (by omega) hn5
              case false =>
                go_wp2_with fail
                refine (trimSpaceTab_any r2 w5 (by omega)).mono ?_
                rintro e w' ⟨rfl, rfl⟩
                have R3 := Lib.hid (fenceOf_yes (Or.inl rfl) HPP.out hq RUN.out h3 R1.out R2.out (fun _ => of_decide_eq_false BB.out))
                generalize trimB r2 = r3 at *
                have bi0 : w5.cell? ⟨bi, 0, none⟩ = some (.string i0) := hi5.cell 0
                have bf0 : w5.cell? ⟨bf, 0, none⟩ = some (.string f0) := hf5.cell 0
                have bi1 := hi5.fr 0
                have bf1 := hf5.fr 0
                have bil := hi5.lt
                have bfl := hf5.lt
                obtain ⟨g0, g1, g2, g3, g4, gf0, gf1, gf2, gf3, gf4, gbl⟩ := LineAt.facts hb5
                have y1 : (m : Int) ≤ (text.extract P text.size).size := by rw [ByteArray.size_extract]; omega
                have y2 : (0 : Int) ≤ m := by omega
                go_wp2_with fail
                go_ret
                have hi6 := hi5.set_same 0 (.string r3)
                have hf6 : Blk (w5.setCell ⟨bi, 0, none⟩ (.string r3)) bf #[.string f0] 9 := hf5.set_other (a := ⟨bi, 0, none⟩) (Ne.symm hfi) _
                have hb6 : LineAt (w5.setCell ⟨bi, 0, none⟩ (.string r3)) b 0 text nl := Blk.set_other hb5 (a := ⟨bi, 0, none⟩) hib _
                have hn6 : Blk (w5.setCell ⟨bi, 0, none⟩ (.string r3)) bn #[.int .i64 (3 : Nat)] 3 := hn5.set_other (a := ⟨bi, 0, none⟩) hin _
                have hf7 := hf6.set_same 0 (.string ((text.extract P text.size).extract 0 m))
                have hi7 := hi6.set_other (a := ⟨bf, 0, none⟩) hfi (.string ((text.extract P text.size).extract 0 m))
                have hb7 : LineAt ((w5.setCell ⟨bi, 0, none⟩ (.string r3)).setCell ⟨bf, 0, none⟩ (.string ((text.extract P text.size).extract 0 m))) b 0 text nl := Blk.set_other hb6 (a := ⟨bf, 0, none⟩) hfb _
                have hn7 := hn6.set_other (a := ⟨bf, 0, none⟩) hfn (.string ((text.extract P text.size).extract 0 m))
                have hm7 : Mods (fun k => k = bn ∨ k = b ∨ k = bf ∨ k = bi) w ((w5.setCell ⟨bi, 0, none⟩ (.string r3)).setCell ⟨bf, 0, none⟩ (.string ((text.extract P text.size).extract 0 m))) :=
                  ((MN.out.mono (S' := fun k => k = bn ∨ k = b ∨ k = bf ∨ k = bi) (fun _ _ h => Or.inl h)).setCell (p := ⟨bi, 0, none⟩) (fun _ => Or.inr (Or.inr (Or.inr rfl))) _).setCell (p := ⟨bf, 0, none⟩) (fun _ => Or.inr (Or.inr (Or.inl rfl))) _
                generalize ((w5.setCell ⟨bi, 0, none⟩ (.string r3)).setCell ⟨bf, 0, none⟩ (.string ((text.extract P text.size).extract 0 m)) : World) = w7 at *
                have hP5 := put5 hb7 0 ⟨#[]⟩ 0
                exact FencePost.yes R3.out (hm7.then hP5.1 (fun _ _ h => Or.inr (Or.inl h))) HY.out hP5.2 (hf7.keep1 hP5.1 hfb) (hi7.keep1 hP5.1 hib) (hn7.keep1 hP5.1 hnb)
            · have h3' : ¬ ((3 : Int) ≤ m) := by omega
              go_wp2_with fail
              go_ret
              exact FencePost.no (fenceOf_few HPP.out hq RUN.out h3) (hno_mods _ hmD) 3 (by omega) hnD
      · by_cases hq2 : at0 text P = 126
        · have hq := hq2
          have hPs : P < text.size := by
            obtain ⟨h, _⟩ := at0_lt hq (by decide)
            exact h
          have hcz : ((at0 text P).toNat : Int) = 126 := by rw [hq]; rfl
          go_wp2_with fail
          refine (lineString_any _ _ _ _ _ hT.size (Nat.le_of_lt hPs) hl2).mono ?_
          rintro e w3 ⟨rfl, n3, rfl⟩
          have hl3 : LineAt (w2.drewN n3) w.heap.size P text nl := Blk.drewN hl2 n3
          have hn3 : Blk (w2.drewN n3) bn #[.int .i64 (3 : Nat)] 3 := hn2.drewN n3
          have hm3 := hm2.drewN n3
          generalize (w2.drewN n3 : World) = w3 at *
          clear hl2 hn2 hm2
          go_wp2_with fail
          go_loopg [12, 13] text.size (fun g v12 v13 wx => ∃ m : Nat, v12 = .int .i64 m ∧ v13 = .int .i64 m ∧ g = text.size - m ∧ P + m ≤ text.size ∧ runC text 126 P = m + runC text 126 (P + m) ∧ Mods (fun j => j = w.heap.size ∨ j = bn) w wx ∧ LineAt wx w.heap.size (P + m) text nl ∧ Blk wx bn #[.int .i64 (3 : Nat)] 3)
          case atStart => exact ⟨0, rfl, rfl, rfl, by omega, by rw [Nat.add_zero]; omega, hm3, hl3, hn3⟩
          case round =>
            clear hl3 hn3 hm3
            obtain ⟨m, rfl, rfl, hgm, hPm, hrun, hmx, hlx, hnx⟩ := hrel
            have HGM := Lib.hid hgm
            have HRUN := Lib.hid hrun
            clear hgm hrun
            have z1 : IntKind.i64.wrap ((m : Int) + 1) = (m : Int) + 1 := IntWalk.i64_in _ (by omega)
            by_cases hy : ∃ h : P + m < text.size, text[P + m] = 126
            · obtain ⟨hy1, hy2⟩ := hy
              have HY2 := Lib.hid hy2
              have HR2 := Lib.hid (runC_yes hy1 hy2)
              clear hy2
              go_wp2_with fail
              refine (trim_yes _ _ text 126 nl _ hT.size hlx hy1 (by rw [HY2.out]; rfl)).mono ?_
              rintro e w4 ⟨rfl, hm4, hl4⟩
              have hn4 := hnx.keep1 hm4 (by omega)
              go_wp2_with fail
              go_roundg (text.size - (m + 1))
              case measure => have := HGM.out; omega
              case rel => exact ⟨m + 1, by simp, by simp, rfl, by omega, by rw [HRUN.out, HR2.out, show P + (m + 1) = P + m + 1 by omega]; omega, hmx.then hm4 (fun _ _ h => Or.inl h), hl4, hn4⟩
            · have hzero := runC_no (s := text) (c := 126) (i := P + m) (fun h e => hy ⟨h, e⟩)
              have RUN : Hid (runC text 126 P = m) := Lib.hid (by rw [HRUN.out, hzero, Nat.add_zero])
              have hne : ∀ h : P + m < text.size, (text[P + m].toNat : Int) ≠ 126 := fun h e => hy ⟨h, UInt8.toNat_inj.1 (by show _ = 126; omega)⟩
              clear hzero hy
              go_wp2_with fail
              refine (trim_no _ _ text 126 nl _ hPm hlx hne).mono ?_
              rintro e w4 ⟨rfl, n4, rfl⟩
              have hlD : LineAt (wr.drewN n4) w.heap.size (P + m) text nl := Blk.drewN hlx n4
              have hnD : Blk (wr.drewN n4) bn #[.int .i64 (3 : Nat)] 3 := hnx.drewN n4
              have hmD := hmx.drewN n4
              generalize (wr.drewN n4 : World) = wD at *
              clear hlx hnx hmx hne
              by_cases h3 : 3 ≤ m
              · have h3' : (3 : Int) ≤ m := by omega
                go_wp2_with fail
                refine (trimString_any _ _ text nl wD hT.size hPm hlD).mono ?_
                rintro e w4 ⟨rfl, n5, rfl⟩
                obtain ⟨r1, R1⟩ : ∃ r, Hid (trimB (text.extract (P + m) text.size) = r) := ⟨_, Lib.hid rfl⟩
                have hr1 : (trimB (text.extract (P + m) text.size)).size ≤ text.size - (P + m) := by
                  have := trimB_le (text.extract (P + m) text.size)
                  rw [ByteArray.size_extract] at this
                  omega
                have hm4 : Same wD (wD.drewN n5) := (Mods.refl _ wD).drewN n5
                rw [R1.out] at hr1 ⊢
                generalize (wD.drewN n5 : World) = w4 at *
                have hE4 : EntAt w4 := (hE.of_mods hmD (fun h => h.elim (fun h => by omega) hEn)).same hm4
                go_wp2_with fail
                refine (unescape_any r1 w4 (by omega) hE4).mono ?_
                rintro e w5 ⟨rfl, hm5⟩
                obtain ⟨r2, R2⟩ : ∃ r, Hid (unE r1 = r) := ⟨_, Lib.hid rfl⟩
                have hr2 := unE_size r1
                rw [R2.out] at hr2 ⊢
                have hm45 := hm4.trans hm5
                have hn5 : Blk w5 bn #[.int .i64 (3 : Nat)] 3 := Same.blk hm45 hnD
                have MN := Lib.hid (hno_mods _ (hmD.then hm45 (fun _ _ h => absurd h (fun x => x))))
                have hb5 : LineAt w5 b 0 text nl := Blk.keep hL MN.out (Ne.symm hnb)
                have hf5 : Blk w5 bf #[.string f0] 9 := hf.keep MN.out hfn
                have hi5 : Blk w5 bi #[.string i0] 9 := hi.keep MN.out hin
                clear hm4 hm5 hm45 hE4 hmD hnD hlD
                go_wp2_with fail
                go_wp2_with fail
                refine (trimSpaceTab_any r2 w5 (by omega)).mono ?_
                rintro e w' ⟨rfl, rfl⟩
                have R3 := Lib.hid (fenceOf_yes (Or.inr rfl) HPP.out hq RUN.out h3 R1.out R2.out (fun h => absurd h (by decide)))
                generalize trimB r2 = r3 at *
                have bi0 : w5.cell? ⟨bi, 0, none⟩ = some (.string i0) := hi5.cell 0
                have bf0 : w5.cell? ⟨bf, 0, none⟩ = some (.string f0) := hf5.cell 0
                have bi1 := hi5.fr 0
                have bf1 := hf5.fr 0
                have bil := hi5.lt
                have bfl := hf5.lt
                obtain ⟨g0, g1, g2, g3, g4, gf0, gf1, gf2, gf3, gf4, gbl⟩ := LineAt.facts hb5
                have y1 : (m : Int) ≤ (text.extract P text.size).size := by rw [ByteArray.size_extract]; omega
                have y2 : (0 : Int) ≤ m := by omega
                go_wp2_with fail
                go_ret
                have hi6 := hi5.set_same 0 (.string r3)
                have hf6 : Blk (w5.setCell ⟨bi, 0, none⟩ (.string r3)) bf #[.string f0] 9 := hf5.set_other (a := ⟨bi, 0, none⟩) (Ne.symm hfi) _
                have hb6 : LineAt (w5.setCell ⟨bi, 0, none⟩ (.string r3)) b 0 text nl := Blk.set_other hb5 (a := ⟨bi, 0, none⟩) hib _
                have hn6 : Blk (w5.setCell ⟨bi, 0, none⟩ (.string r3)) bn #[.int .i64 (3 : Nat)] 3 := hn5.set_other (a := ⟨bi, 0, none⟩) hin _
                have hf7 := hf6.set_same 0 (.string ((text.extract P text.size).extract 0 m))
                have hi7 := hi6.set_other (a := ⟨bf, 0, none⟩) hfi (.string ((text.extract P text.size).extract 0 m))
                have hb7 : LineAt ((w5.setCell ⟨bi, 0, none⟩ (.string r3)).setCell ⟨bf, 0, none⟩ (.string ((text.extract P text.size).extract 0 m))) b 0 text nl := Blk.set_other hb6 (a := ⟨bf, 0, none⟩) hfb _
                have hn7 := hn6.set_other (a := ⟨bf, 0, none⟩) hfn (.string ((text.extract P text.size).extract 0 m))
                have hm7 : Mods (fun k => k = bn ∨ k = b ∨ k = bf ∨ k = bi) w ((w5.setCell ⟨bi, 0, none⟩ (.string r3)).setCell ⟨bf, 0, none⟩ (.string ((text.extract P text.size).extract 0 m))) :=
                  ((MN.out.mono (S' := fun k => k = bn ∨ k = b ∨ k = bf ∨ k = bi) (fun _ _ h => Or.inl h)).setCell (p := ⟨bi, 0, none⟩) (fun _ => Or.inr (Or.inr (Or.inr rfl))) _).setCell (p := ⟨bf, 0, none⟩) (fun _ => Or.inr (Or.inr (Or.inl rfl))) _
                generalize ((w5.setCell ⟨bi, 0, none⟩ (.string r3)).setCell ⟨bf, 0, none⟩ (.string ((text.extract P text.size).extract 0 m)) : World) = w7 at *
                have hP5 := put5 hb7 0 ⟨#[]⟩ 0
                exact FencePost.yes R3.out (hm7.then hP5.1 (fun _ _ h => Or.inr (Or.inl h))) HY.out hP5.2 (hf7.keep1 hP5.1 hfb) (hi7.keep1 hP5.1 hib) (hn7.keep1 hP5.1 hnb)
              · have h3' : ¬ ((3 : Int) ≤ m) := by omega
                go_wp2_with fail
                go_ret
                exact FencePost.no (fenceOf_few HPP.out hq RUN.out h3) (hno_mods _ hmD) 3 (by omega) hnD
        · have d1 : ((at0 text P).toNat : Int) ≠ 96 := fun e => hq (UInt8.toNat_inj.1 (by show _ = 96; omega))
          have d2 : ((at0 text P).toNat : Int) ≠ 126 := fun e => hq2 (UInt8.toNat_inj.1 (by show _ = 126; omega))
          have e1 := bne_of d1
          have e2 := bne_of d2
          have HQ2 := Lib.hid hq2
          have HQ1 := Lib.hid hq
          clear d1 d2 hq hq2
          go_wp2_with fail
          go_ret
          exact FencePost.no (fenceOf_other HPP.out HQ1.out HQ2.out) (hno_mods _ hm2) 3 (by omega) hn2
end Go.Proofs.YtdnlfdppjfjncaaGreatDoor

/- The lines of a text, and the longest run of a byte in it: plain facts, no program. -/
namespace Go.Proofs.YtdnlfdppjfjncaaGreatDoor
open Go Go.RowKit Go.Proofs

/-- The lines of a text. -/
def cut : List UInt8 → List (List UInt8)
  | [] => [[]]
  | c :: r => if c = 10 then [] :: cut r else match cut r with
    | [] => [[c]]
    | x :: t => (c :: x) :: t

theorem cut_cons (l : List UInt8) : ∃ x t, cut l = x :: t := by
  cases l with
  | nil => exact ⟨_, _, rfl⟩
  | cons c r =>
    unfold cut
    split
    · exact ⟨_, _, rfl⟩
    · split <;> exact ⟨_, _, rfl⟩

theorem cut_lf (r : List UInt8) : cut (10 :: r) = [] :: cut r := by rw [cut, if_pos rfl]
theorem cut_other {c : UInt8} (h : c ≠ 10) {r x : List UInt8} {t : List (List UInt8)} (hr : cut r = x :: t) : cut (c :: r) = (c :: x) :: t := by
  rw [cut, if_neg h, hr]

theorem cut_no10 : ∀ (s l : List UInt8), l ∈ cut s → (10 : UInt8) ∉ l
  | [], l, h => by simp [cut] at h; subst h; simp
  | c :: r, l, h => by
    by_cases hc : c = 10
    · subst hc
      rw [cut_lf] at h
      rcases List.mem_cons.1 h with h | h
      · subst h; simp
      · exact cut_no10 r l h
    · obtain ⟨x, t, hr⟩ := cut_cons r
      rw [cut_other hc hr] at h
      rcases List.mem_cons.1 h with h | h
      · subst h
        have := cut_no10 r x (by rw [hr]; simp)
        simp only [List.mem_cons, not_or]
        exact ⟨Ne.symm hc, this⟩
      · exact cut_no10 r l (by rw [hr]; exact List.mem_cons_of_mem _ h)

theorem cut_join : ∀ s : List UInt8, (cut s).flatMap (· ++ [10]) = s ++ [10]
  | [] => by simp [cut]
  | c :: r => by
    have ih := cut_join r
    by_cases hc : c = 10
    · subst hc
      rw [cut_lf, List.flatMap_cons, ih]
      rfl
    · obtain ⟨x, t, hr⟩ := cut_cons r
      rw [cut_other hc hr]
      rw [hr, List.flatMap_cons] at ih
      rw [List.flatMap_cons, List.cons_append, List.cons_append, ih]
      rfl

theorem cut_head : ∀ (s x : List UInt8) (t : List (List UInt8)), cut s = x :: t → ∃ y, s = x ++ y
  | [], x, t, h => by simp [cut] at h; exact ⟨[], by rw [h.1]; rfl⟩
  | c :: r, x, t, h => by
    by_cases hc : c = 10
    · subst hc
      rw [cut_lf] at h
      have := (List.cons.inj h).1
      subst this
      exact ⟨10 :: r, rfl⟩
    · obtain ⟨x', t', hr⟩ := cut_cons r
      rw [cut_other hc hr] at h
      obtain ⟨y, hy⟩ := cut_head r x' t' hr
      have := (List.cons.inj h).1
      subst this
      exact ⟨y, by rw [hy]; rfl⟩

theorem cut_infix : ∀ (s l : List UInt8), l ∈ cut s → ∃ x y, s = x ++ l ++ y
  | [], l, h => by simp [cut] at h; subst h; exact ⟨[], [], rfl⟩
  | c :: r, l, h => by
    by_cases hc : c = 10
    · subst hc
      rw [cut_lf] at h
      rcases List.mem_cons.1 h with h | h
      · subst h; exact ⟨[], 10 :: r, rfl⟩
      · obtain ⟨x, y, hxy⟩ := cut_infix r l h
        exact ⟨10 :: x, y, by rw [hxy]; rfl⟩
    · obtain ⟨x', t', hr⟩ := cut_cons r
      rw [cut_other hc hr] at h
      rcases List.mem_cons.1 h with h | h
      · subst h
        obtain ⟨y, hy⟩ := cut_head r x' t' hr
        exact ⟨[], y, by rw [hy]; rfl⟩
      · obtain ⟨x, y, hxy⟩ := cut_infix r l (by rw [hr]; exact List.mem_cons_of_mem _ h)
        exact ⟨c :: x, y, by rw [hxy]; rfl⟩

theorem cut_len : ∀ s : List UInt8, (cut s).length ≤ s.length + 1
  | [] => by simp [cut]
  | c :: r => by
    have ih := cut_len r
    by_cases hc : c = 10
    · subst hc; rw [cut_lf]; simp; omega
    · obtain ⟨x, t, hr⟩ := cut_cons r
      rw [cut_other hc hr]
      rw [hr] at ih
      simp at ih ⊢
      omega

/-- The longest run of c, if the best so far is b and n of them stand right ahead. -/
def lon (c : UInt8) : List UInt8 → Nat → Nat → Nat
  | [], b, _ => b
  | x :: r, b, n => lon c r (max b (if x = c then n + 1 else 0)) (if x = c then n + 1 else 0)

theorem lon_ge (c : UInt8) : ∀ (l : List UInt8) (b n : Nat), b ≤ lon c l b n
  | [], b, n => Nat.le_refl _
  | x :: r, b, n => Nat.le_trans (Nat.le_max_left _ _) (lon_ge c r _ _)

theorem lon_app (c : UInt8) : ∀ (a t : List UInt8) (b n : Nat), ∃ b' n', lon c (a ++ t) b n = lon c t b' n'
  | [], t, b, n => ⟨b, n, rfl⟩
  | x :: a, t, b, n => lon_app c a t _ _

theorem lon_run (c : UInt8) : ∀ (m : Nat) (t : List UInt8) (b n : Nat), n ≤ b → n + m ≤ lon c (List.replicate m c ++ t) b n
  | 0, t, b, n, h => Nat.le_trans h (lon_ge c t b n)
  | m + 1, t, b, n, h => by
    rw [List.replicate_succ, List.cons_append, lon, if_pos rfl]
    have := lon_run c m t (max b (n + 1)) (n + 1) (Nat.le_max_right _ _)
    omega

theorem lon_infix (c : UInt8) (a t : List UInt8) (m : Nat) : m ≤ lon c (a ++ (List.replicate m c ++ t)) 0 0 := by
  obtain ⟨b', n', h⟩ := lon_app c a (List.replicate m c ++ t) 0 0
  rw [h]
  cases m with
  | zero => exact Nat.zero_le _
  | succ m =>
    rw [List.replicate_succ, List.cons_append, lon, if_pos rfl]
    have := lon_run c m t (max b' (n' + 1)) (n' + 1) (Nat.le_max_right _ _)
    omega

theorem lon_len (c : UInt8) : ∀ (l : List UInt8) (b n : Nat), n ≤ b → lon c l b n ≤ b + l.length
  | [], b, n, _ => by simp [lon]
  | x :: r, b, n, h => by
    rw [lon, List.length_cons]
    split
    · have := lon_len c r (max b (n + 1)) (n + 1) (Nat.le_max_right _ _)
      omega
    · have := lon_len c r (max b 0) 0 (Nat.zero_le _)
      omega

/-- Lines with a line feed each. -/
def endT (ls : List ByteArray) : ByteArray := ⟨(ls.flatMap (fun l => l.data.toList ++ [10])).toArray⟩
theorem endT_list (ls : List ByteArray) : (endT ls).data.toList = ls.flatMap (fun l => l.data.toList ++ [10]) := by simp [endT]
theorem endT_cons (l : ByteArray) (r : List ByteArray) : (endT (l :: r)).data.toList = l.data.toList ++ 10 :: (endT r).data.toList := by
  rw [endT_list, endT_list, List.flatMap_cons, List.append_assoc]; rfl
theorem endT_size (l : ByteArray) (r : List ByteArray) : (endT (l :: r)).size = l.size + 1 + (endT r).size := cut_lt (endT_cons l r)
theorem endT_nil : endT [] = ⟨#[]⟩ := rfl
theorem endT_drop_le : ∀ (ls : List ByteArray) (j : Nat), (endT (ls.drop j)).size ≤ (endT ls).size
  | ls, 0 => Nat.le_refl _
  | [], j + 1 => by simp
  | x :: r, j + 1 => by
    have := endT_drop_le r j
    rw [endT_size, List.drop_succ_cons]
    omega
theorem endT_mem : ∀ (ls : List ByteArray) (c : UInt8), c ∈ (endT ls).data.toList → c = 10 ∨ ∃ l ∈ ls, c ∈ l.data.toList := by
  intro ls c h
  rw [endT_list, List.mem_flatMap] at h
  obtain ⟨l, hl, h⟩ := h
  rcases List.mem_append.1 h with h | h
  · exact Or.inr ⟨l, hl, h⟩
  · exact Or.inl (by simpa using h)

theorem endT_feed (ls : List ByteArray) (hs : (endT ls).size ≤ 900000) (h10 : ∀ l ∈ ls, (10 : UInt8) ∉ l.data.toList) (h13 : ∀ l ∈ ls, (13 : UInt8) ∉ l.data.toList) (h0 : ∀ l ∈ ls, (0 : UInt8) ∉ l.data.toList) : Feed (fun j => endT (ls.drop j)) ls where
  done := by show endT (ls.drop ls.length) = _; rw [List.drop_length]; rfl
  step := by
    intro j l hl
    have hlt : j < ls.length := (List.getElem?_eq_some_iff.1 hl).1
    have hdrop : ls.drop j = l :: ls.drop (j + 1) := by
      rw [List.drop_eq_getElem_cons hlt]
      congr 1
      exact Option.some.inj ((List.getElem?_eq_getElem hlt).symm.trans hl)
    left
    show (endT (ls.drop j)).data.toList = _
    rw [hdrop, endT_cons]
  no10 := fun l hl i hi e => h10 l hl (by rw [← e]; exact get_mem hi)
  no13 := by
    intro j i hi e
    rcases endT_mem _ 13 (by rw [← e]; exact get_mem hi) with h | ⟨l, hl, h⟩
    · exact absurd h (by decide)
    · exact h13 l (List.mem_of_mem_drop hl) h
  no0 := by
    intro i hi e
    rcases endT_mem _ 0 (by rw [← e]; exact get_mem hi) with h | ⟨l, hl, h⟩
    · exact absurd h (by decide)
    · exact h0 l (List.mem_of_mem_drop hl) h
  small := fun j => Nat.le_trans (endT_drop_le ls j) hs
  count := by
    have : ∀ ls : List ByteArray, ls.length ≤ (endT ls).size := by
      intro ls
      induction ls with
      | nil => exact Nat.zero_le _
      | cons l r ih => rw [endT_size, List.length_cons]; omega
    exact Nat.le_trans (this ls) hs
end Go.Proofs.YtdnlfdppjfjncaaGreatDoor

/- A line of tildes begins a fence. -/
namespace Go.Proofs.YtdnlfdppjfjncaaGreatDoor
open Go Go.RowKit Go.Proofs

/-- The fence. -/
def fenceT (m : Nat) : ByteArray := strL (List.replicate m 126)
theorem fenceT_size (m : Nat) : (fenceT m).size = m := by rw [fenceT, strL_size, List.length_replicate]
theorem fenceT_list (m : Nat) : (fenceT m).data.toList = List.replicate m 126 := by simp [fenceT, strL]
theorem fenceT_get (m i : Nat) (h : i < (fenceT m).size) : (fenceT m)[i] = 126 := by
  have hg := list_get h
  rw [fenceT_list, List.getElem?_replicate] at hg
  split at hg
  · exact (Option.some.inj hg).symm
  · cases hg
theorem fenceT_run (m : Nat) : ∀ (n i : Nat), m - i = n → i ≤ m → runC (fenceT m) 126 i = m - i
  | 0, i, hn, hi => by rw [runC_no (fun h => by rw [fenceT_size] at h; omega)]; omega
  | n + 1, i, hn, hi => by
    have h : i < (fenceT m).size := by rw [fenceT_size]; omega
    rw [runC_yes h (fenceT_get m i h), fenceT_run m n (i + 1) (by omega) (by omega)]; omega
theorem fenceT_p3 (m : Nat) : p3 (fenceT m) 0 = 0 := by
  unfold p3 lead
  split
  · rename_i h; rw [fenceT_get m 0 h]; rfl
  · rfl
theorem fenceT_eq {f : ByteArray} {m : Nat} (h : f.data.toList = List.replicate m 126) : f = fenceT m := by
  apply ByteArray.ext
  apply Array.ext'
  rw [h, fenceT_list]

theorem empty_size {s : ByteArray} (h : s.size = 0) : s = ⟨#[]⟩ := by
  apply ByteArray.ext_getElem
  · exact h
  · intro i h1 h2; omega

theorem fence_bar {m : Nat} (hm : 3 ≤ m) : fenceOf (fenceT m) = some (fenceT m, ⟨#[]⟩) := by
  have hr := fenceT_run m _ 0 rfl (Nat.zero_le _)
  rw [Nat.sub_zero] at hr
  have hs := fenceT_size m
  have h1 := trimB_le ((fenceT m).extract (0 + m) (fenceT m).size)
  have h2 := unE_size (trimB ((fenceT m).extract (0 + m) (fenceT m).size))
  have h3 := trimB_le (unE (trimB ((fenceT m).extract (0 + m) (fenceT m).size)))
  rw [ByteArray.size_extract] at h1
  have h := fenceOf_yes (Or.inr rfl) (fenceT_p3 m) (by rw [at0_eq (by omega), fenceT_get]) hr hm rfl rfl (fun h => absurd h (by decide))
  rw [h, empty_size (s := trimB _) (by omega), fenceT_eq (run_cut (by omega) hr)]

/-- What a fence leaves when it begins. -/
structure FenceNew (w w' : World) (bp : Nat) (p : PSt) (n : Nat) (l : List Value) (m : Nat) : Prop where
  mods : Mods (fun k => k = bp ∨ p.stack.ownBlock = some k) w w'
  ex : ∃ g cap fb, PsAt w' bp { p with stack := .slice (some ⟨g, 0, none⟩) (n + 1) cap } ∧
    w'.ownsRow 0 121 4 (.slice (some ⟨g, 0, none⟩) (n + 1) cap) (n + 1) (l ++ [.iface 251 (.pointer (some ⟨fb, 0, none⟩)), .slice none 0 0, .int .i64 p.lineno, .int .i64 p.lineno]) ∧
    Blk w' fb #[.string (fenceT m), .string ⟨#[]⟩, .int .i64 0, .slice none 0 0] 253 ∧ w.heap.size ≤ fb ∧ (g < w.heap.size → p.stack.ownBlock = some g)

set_option maxRecDepth 100000 in
set_option maxHeartbeats 4000000 in
theorem newFence_bar (bp n cap : Nat) (a : Option Addr) (p : PSt) (l : List Value) (d : Int) (m : Nat) (nl : Int) (w : World) (hm : 3 ≤ m) (hm9 : m ≤ 80000) (hE : EntAt w)
    (hp : PsAt w bp p) (hst : p.stack = .slice a n cap) (hn : n ≤ 1000) (hd : p.depth = d) (hdn : d + 1 = n) (hown : w.ownsRow 0 121 4 (.slice a n cap) n l) (hne : ∀ g, (Value.slice a n cap).ownBlock = some g → g ≠ bp) :
    Calls Tryz.prog 101 #[.pointer (some ⟨bp, 0, none⟩), LV 0 (fenceT m) nl] w fun e w' => e = .returned (.tuple #[zeroLV, .bool true]) ∧ FenceNew w w' bp p n l m := by
  have hsz := fenceT_size m
  have hT : Txt (fenceT m) := ⟨by omega, fun j h => by rw [fenceT_get m j h]; decide⟩
  have HD := Lib.hid hd
  have HST := Lib.hid hst
  have HDN := Lib.hid hdn
  clear hd hst hdn
  go_enter Tryz.func101, Tryz.ntmps101
  go_wp2_with fail
  generalize hW : ((((((w.alloc _).alloc _).alloc _).alloc _).alloc _).alloc _ : World) = W
  have hm0 : Same w W := by subst hW; exact ((((((Mods.refl _ w).alloc _).alloc _).alloc _).alloc _).alloc _).alloc _
  have hb : LineAt W w.heap.size 0 (fenceT m) nl := by subst hW; exact (((((Blk.newAt _ _ rfl).alloc _).alloc _).alloc _).alloc _).alloc _
  have hr : LineAt W (w.heap.size + 1) 0 ⟨#[]⟩ 0 := by subst hW; exact ((((Blk.newAt _ _ (by simp)).alloc _).alloc _).alloc _).alloc _
  have hf : Blk W (w.heap.size + 1 + 1) #[.string ⟨#[]⟩] 9 := by subst hW; exact (((Blk.newAt _ _ (by simp)).alloc _).alloc _).alloc _
  have hi : Blk W (w.heap.size + 1 + 1 + 1) #[.string ⟨#[]⟩] 9 := by subst hW; exact ((Blk.newAt _ _ (by simp)).alloc _).alloc _
  have hn4 : Blk W (w.heap.size + 1 + 1 + 1 + 1) #[.int .i64 0] 3 := by subst hW; exact (Blk.newAt _ _ (by simp)).alloc _
  have hl : LineAt W (w.heap.size + 1 + 1 + 1 + 1 + 1) 0 (fenceT m) nl := by subst hW; exact Blk.newAt _ _ (by simp)
  clear hW
  refine (trimFence_any _ _ _ _ _ _ _ (fenceT m) nl W hT (by omega) hl hn4 hf hi (by omega) (hE.same hm0)).mono ?_
  rintro e w1 hFP
  unfold FencePost at hFP
  rw [fence_bar hm] at hFP
  obtain ⟨rfl, hm1, hl1, hf1, hi1, hn1⟩ := hFP
  have hy1 : lead (fenceT m) 0 3 = 0 := by
    have := fenceT_p3 m
    unfold p3 at this
    omega
  rw [hy1] at hn1
  · have hb1 : LineAt w1 w.heap.size 0 (fenceT m) nl := Blk.keep hb hm1 (by omega)
    have hr1 : LineAt w1 (w.heap.size + 1) 0 ⟨#[]⟩ 0 := Blk.keep hr hm1 (by omega)
    have hk1 : Same w w1 := hm0.then hm1 (by intro b hb; omega)
    have cf : w1.cell? ⟨w.heap.size + 1 + 1, 0, none⟩ = some (.string (fenceT m)) := hf1.cell 0
    have ci : w1.cell? ⟨w.heap.size + 1 + 1 + 1, 0, none⟩ = some (.string ⟨#[]⟩) := hi1.cell 0
    have cn : w1.cell? ⟨w.heap.size + 1 + 1 + 1 + 1, 0, none⟩ = some (.int .i64 (0 : Nat)) := hn1.cell 0
    have h126 : ((((fenceT m)[0]'(by omega)).toNat : Int) == 126) = true := by rw [fenceT_get]; rfl
    have hz : (0 : Int) < (fenceT m).size := by omega
    clear hb hr hf hi hn4 hl hm0 hm1 hl1 hE hy1
    go_wp2_with fail
    have hI : Same w1 (w1.iter ⟨#[]⟩ 0) := (Mods.refl _ w1).alloc _
    have hit := World.iter_heap w1 ⟨#[]⟩ 0
    have hk2 := hk1.trans hI
    have hr2 := hI.blk hr1
    have hf2 := hI.blk hf1
    have hi2 := hI.blk hi1
    have hn2 := hI.blk hn1
    clear cf ci cn hb1 hr1 hf1 hi1 hn1
    generalize (w1.iter ⟨#[]⟩ 0 : World) = W2 at *
    clear hI hk1
    go_loopg [] 0 (fun k wr => wr = W2)
    case atStart => rfl
    case round =>
      subst hrel
      have hnx : ∀ ty, (Instr.next (.pointer (some ⟨w1.heap.size, 0, none⟩)) true ty).run Tryz.prog wr = _ := fun ty => Lib.run_next_end_at wr w1.heap.size ⟨#[]⟩ 0 ty hit (by decide)
      have cf : wr.cell? ⟨w.heap.size + 1 + 1, 0, none⟩ = some (.string (fenceT m)) := hf2.cell 0
      have ci : wr.cell? ⟨w.heap.size + 1 + 1 + 1, 0, none⟩ = some (.string ⟨#[]⟩) := hi2.cell 0
      have cn : wr.cell? ⟨w.heap.size + 1 + 1 + 1 + 1, 0, none⟩ = some (.int .i64 (0 : Nat)) := hn2.cell 0
      have lf := hf2.lt
      have li := hi2.lt
      have ln := hn2.lt
      go_wp2_with fail
      generalize hX : (wr.alloc _ : World) = X
      have hmX : Same wr X := by subst hX; exact (Mods.refl _ wr).alloc _
      have hFb : Blk X wr.heap.size #[.string (fenceT m), .string ⟨#[]⟩, .int .i64 0, .slice none 0 0] 253 := by subst hX; exact Blk.newAt _ _ rfl
      clear hX
      have hkX := hk2.trans hmX
      have hrX := hmX.blk hr2
      have hszw := hk2.size
      have hrl := Blk.lt hrX
      clear cf ci cn lf li ln hnx
      refine (addBlock_any bp n cap a p 251 (.pointer (some ⟨wr.heap.size, 0, none⟩)) l d X (hp.same hkX) HST.out hn HD.out HDN.out (ownsRow_keep hown hkX (fun _ _ x => x)) hne rfl).mono ?_
      rintro e w5 ⟨rfl, hm5, g, cap2, hp5, hown5, hg5⟩
      have hXs := hkX.size
      have hbne : ∀ b cs T, Blk X b cs T → T ≠ 95 → T ≠ 121 → ¬ (b = bp ∨ p.stack.ownBlock = some b) := by
        intro b cs T hb h1 h2 h
        rcases h with h | h
        · obtain ⟨tail, htl⟩ := id (hp.same hkX)
          exact hb.ne_of_type htl h1 h
        · rw [HST.out] at h
          exact own_ne (ownsRow_keep hown hkX (fun _ _ x => x)) hb h2 h
      have hF5 := hFb.keep hm5 (hbne _ _ _ hFb (by decide) (by decide))
      have hr5 := Blk.keep hrX hm5 (hbne _ _ _ hrX (by decide) (by decide))
      obtain ⟨r0, r1, r2, r3, r4, rf0, rf1, rf2, rf3, rf4, rbl⟩ := LineAt.facts hr5
      have HF := Lib.hid hF5
      have HOWN := Lib.hid hown5
      have HP := Lib.hid hp5
      have HM := Lib.hid (hkX.mono (S' := fun k => k = bp ∨ p.stack.ownBlock = some k) (fun _ _ h => absurd h (fun x => x)) |>.trans hm5)
      clear hF5 hown5 hp5 hFb hrX hk2 hkX hmX hr2 hf2 hi2 hn2 hit hown
      go_wp2_with fail
      have hm6 := (put5 hr5 0 ⟨#[]⟩ 0).1
      have hsz1 : w.heap.size + 1 < X.heap.size := hrl
      refine bodyPost_ret (v := .tuple #[zeroLV, .bool true]) (by simp [results, Tryz.results101, go_sem, r0, r1, r2, r3, r4]) rfl ⟨rfl, ?_, g, cap2, wr.heap.size, ?_, ?_, ?_, by omega, ?_⟩
      · exact HM.out.then hm6 (fun b hb h => by omega)
      · obtain ⟨tail, htl⟩ := id HP.out
        exact HP.out.keep hm6 (fun h => (Blk.ne_of_type htl hr5 (by decide)) h)
      · exact ownsRow_keep HOWN.out hm6 (fun b hb x => own_ne HOWN.out hr5 (by decide) (by rw [← x]; exact hb))
      · exact HF.out.keep1 hm6 (HF.out.ne_of_type hr5 (by decide))
      · intro hlt
        exact hg5 (by omega)
end Go.Proofs.YtdnlfdppjfjncaaGreatDoor

/- A line within a fence is taken into it. -/
namespace Go.Proofs.YtdnlfdppjfjncaaGreatDoor
open Go Go.RowKit Go.Proofs

theorem st_str {w : World} {ops : Array Oper} {o : Oper} {a : Act} {K : Act → World → Prop} {Q : Exit → Act → World → Prop} {E : Prop} (hgd : o.guard = none) (s x : Operand) (ho : o.op = .call { callee := .builtin .append, args := #[s, x], argTypes := #[36, 36] })
    (v : Value) (n : Nat) (xs : List Value) (hs : a.eval s = v) (hown : w.ownsRow 0 9 1 v n xs)
    (b c : Nat) (u : ByteArray) (hx : a.eval x = .slice (some ⟨b, 0, none⟩) 1 c) (hu : w.cell? ⟨b, 0, none⟩ = some (.string u)) (hn : n ≤ 1000000)
    (h : ∀ g cap w', w'.ownsRow 0 9 1 (.slice (some ⟨g, 0, none⟩) (n + 1) cap) (n + 1) (xs ++ [.string u]) → w.grownBy w' v.ownBlock → (v.ownBlock = some g ∨ g = w.heap.size) → K (a.put o.dst (.slice (some ⟨g, 0, none⟩) (n + 1) cap)) w') :
    if Region.wanted o (yielded ops a.tmps) = true then Oper.wp Tryz.prog o a w K Q else E :=
  st1 hgd s x 36 9 1 16 ho (.string ⟨#[]⟩) Tryz.underlying36 (by kernel_rfl) rfl (by decide) (by decide) v n xs hs hown b c [.string u] hx rfl
    (fun j y hy => by cases j with
      | zero => simp at hy; subst hy; exact hu
      | succ j => simp at hy) (fun y hy => by simp at hy; subst hy; rfl) hn h

def PrefixOut (w : World) (s p : ByteArray) (e : Ending) (w' : World) : Prop := ∃ bb : Bool, e = .returned (.bool bb) ∧ w = w' ∧ (bb = true ↔ (p.size ≤ s.size ∧ s.extract 0 p.size = p))

set_option maxHeartbeats 2000000 in
theorem hasPrefix_any (s p : ByteArray) (w : World) (_hs : s.size ≤ 100000000) (_hp : p.size ≤ 100000000) :
    Calls Tryz.prog 45 #[.string s, .string p] w (PrefixOut w s p) := by
  by_cases h : p.size ≤ s.size
  · have w1 : (p.size : Int) ≤ s.size := by omega
    have w2 : (0 : Int) ≤ p.size := by omega
    go_enter Tryz.func45, Tryz.ntmps45
    go_wp2
    go_ret
    refine ⟨_, rfl, rfl, ?_⟩
    simp [h]
    constructor
    · intro e
      apply ByteArray.ext
      apply Array.ext'
      rw [← ByteArray.toList_eq, ← ByteArray.toList_eq, e]
    · intro e; rw [e]
  · have w1 : ¬ ((p.size : Int) ≤ s.size) := by omega
    go_enter Tryz.func45, Tryz.ntmps45
    go_wp2
    go_ret
    exact ⟨_, rfl, rfl, by simp [h]⟩

theorem not_prefix {text f : ByteArray} {M : Nat} (h : FenceYes text f) (hM : runC text 126 (p3 text 0) < M) : ¬ ((fenceT M).size ≤ f.size ∧ f.extract 0 (fenceT M).size = fenceT M) := by
  rintro ⟨h1, h2⟩
  obtain ⟨c, hc, h3, hf⟩ := h
  rw [fenceT_size] at h1 h2
  have e1 : (f.extract 0 M).data.toList = List.replicate M 126 := by rw [h2, fenceT_list]
  rw [Lib.extract_data, List.drop_zero, Nat.sub_zero, hf, List.take_replicate] at e1
  have hl : f.size = runC text c (p3 text 0) := by rw [size_list, hf, List.length_replicate]
  have hM0 : 0 < M := by omega
  rw [Nat.min_eq_left (by omega)] at e1
  have e2 := congrArg (fun l => l[0]?) e1
  rw [List.getElem?_replicate, List.getElem?_replicate, if_pos hM0, if_pos hM0] at e2
  have e3 := Option.some.inj e2
  subst e3
  omega
theorem fence_size {text f : ByteArray} (h : FenceYes text f) (hs : text.size ≤ 80000) : f.size ≤ 80000 := by
  obtain ⟨c, hc, h3, hf⟩ := h
  have hle := (p3_le (text := text) (i := 0) (Nat.zero_le _)).2
  have hrl := runC_le text c (text.size - p3 text 0) (p3 text 0) rfl hle
  rw [size_list, hf, List.length_replicate]
  omega

/-- What taking a line in leaves. -/
structure Taken (w w' : World) (bp fb m M : Nat) (p : PSt) (tv : Value) (xs : List Value) (text : ByteArray) : Prop where
  mods : Mods (fun k => k = bp ∨ k = fb ∨ tv.ownBlock = some k) w w'
  ex : ∃ c g ct, PsAt w' bp { p with corner := c } ∧ Blk w' fb #[.string (fenceT M), .string ⟨#[]⟩, .int .i64 0, .slice (some ⟨g, 0, none⟩) (m + 1) ct] 253 ∧
    w'.ownsRow 0 9 1 (.slice (some ⟨g, 0, none⟩) (m + 1) ct) (m + 1) (xs ++ [.string text]) ∧ (tv.ownBlock = some g ∨ w.heap.size ≤ g)

theorem take_facts {w1 w5 : World} {fb bp m : Nat} {cs : Array Value} {p : PSt} {tv : Value} {xs : List Value} {o : Obj} (hB : Blk w1 fb cs 253) (hp : PsAt w1 bp p) (hown : w1.ownsRow 0 9 1 tv m xs) (hgrow : (w1.alloc o).grownBy w5 tv.ownBlock) :
    Blk w5 fb cs 253 ∧ PsAt w5 bp p ∧ Mods (fun k => tv.ownBlock = some k) w1 w5 ∧ w5.cell? ⟨fb, 3, none⟩ = cs[3]? ∧ w5.frozen? ⟨fb, 3, none⟩ = false ∧ fb < w5.heap.size := by
  have hm : Mods (fun k => tv.ownBlock = some k) w1 w5 := ((Mods.refl _ w1).alloc o).trans (grown_mods hgrow)
  have hB5 := hB.keep hm (fun x => own_ne hown hB (by decide) x)
  exact ⟨hB5, hp.keep hm (fun x => own_ne_ps hown hp (by decide) x), hm, hB5.cell 3, hB5.fr 3, hB5.lt⟩

theorem take_done {w wd w1 w5 : World} {fb bp m g cap M : Nat} {p : PSt} {tv : Value} {xs : List Value} {text : ByteArray} {o : Obj} (hS1 : Same wd w1) (hw : w.heap.size ≤ wd.heap.size) (hm5 : Mods (fun k => tv.ownBlock = some k) w1 w5)
    (hB5 : Blk w5 fb #[.string (fenceT M), .string ⟨#[]⟩, .int .i64 0, tv] 253) (hp5 : PsAt w5 bp p) (hown5 : w5.ownsRow 0 9 1 (.slice (some ⟨g, 0, none⟩) (m + 1) cap) (m + 1) (xs ++ [.string text]))
    (hloc : tv.ownBlock = some g ∨ g = (w1.alloc o).heap.size) :
    ∃ g' cap', Mods (fun k => k = fb ∨ tv.ownBlock = some k) wd (w5.setCell ⟨fb, 3, none⟩ (.slice (some ⟨g, 0, none⟩) (m + 1) cap)) ∧ PsAt (w5.setCell ⟨fb, 3, none⟩ (.slice (some ⟨g, 0, none⟩) (m + 1) cap)) bp p ∧
      Blk (w5.setCell ⟨fb, 3, none⟩ (.slice (some ⟨g, 0, none⟩) (m + 1) cap)) fb #[.string (fenceT M), .string ⟨#[]⟩, .int .i64 0, .slice (some ⟨g', 0, none⟩) (m + 1) cap'] 253 ∧
      (w5.setCell ⟨fb, 3, none⟩ (.slice (some ⟨g, 0, none⟩) (m + 1) cap)).ownsRow 0 9 1 (.slice (some ⟨g', 0, none⟩) (m + 1) cap') (m + 1) (xs ++ [.string text]) ∧ (tv.ownBlock = some g' ∨ w.heap.size ≤ g') := by
  obtain ⟨tail, htl⟩ := id hp5
  have hne : fb ≠ bp := hB5.ne_of_type htl (by decide)
  have hmS : Mods (fun k => k = fb) w5 (w5.setCell ⟨fb, 3, none⟩ (.slice (some ⟨g, 0, none⟩) (m + 1) cap)) := (Mods.refl (fun k => k = fb) w5).setCell (p := ⟨fb, 3, none⟩) (fun _ => rfl) _
  refine ⟨g, cap, ?_, hp5.set_other (a := ⟨fb, 3, none⟩) hne _, hB5.set_same 3 _, ownsRow_keep hown5 hmS (fun k hk h => own_ne hown5 hB5 (by decide) (by rw [← h]; exact hk)), hloc.imp (fun h => h) (fun h => ?_)⟩
  · exact ((hS1.mono (S' := fun k => k = fb ∨ tv.ownBlock = some k) (fun _ _ h => absurd h (fun x => x))).then hm5 (fun _ _ h => Or.inr h)).then hmS (fun _ _ h => Or.inl h)
  · have h1 := hS1.size
    have h2 := ((Mods.refl (fun _ => False) w1).alloc o).size
    omega

theorem take_end {w wc : World} {fb bp m g cap M : Nat} {p : PSt} {tv : Value} {xs : List Value} {text : ByteArray} (hp3 : PsAt wc bp p) (hB3 : Blk wc fb #[.string (fenceT M), .string ⟨#[]⟩, .int .i64 0, .slice (some ⟨g, 0, none⟩) (m + 1) cap] 253)
    (hown3 : wc.ownsRow 0 9 1 (.slice (some ⟨g, 0, none⟩) (m + 1) cap) (m + 1) (xs ++ [.string text])) (hloc : tv.ownBlock = some g ∨ w.heap.size ≤ g) (hr3 : LineAt wc (w.heap.size + 1) 0 ⟨#[]⟩ 0) (hm3 : Mods (fun k => k = bp ∨ k = fb ∨ tv.ownBlock = some k) w wc)
    (hne : bp ≠ w.heap.size + 1) (c : Bool) :
    Taken w (P5 (wc.setCell ⟨bp, 6, none⟩ (.bool c)) (w.heap.size + 1) 0 ⟨#[]⟩ 0) bp fb m M p tv xs text := by
  obtain ⟨tail, htl⟩ := id hp3
  have h1 : Mods (fun k => k = bp) wc (wc.setCell ⟨bp, 6, none⟩ (.bool c)) := (Mods.refl (fun k => k = bp) wc).setCell (p := ⟨bp, 6, none⟩) (fun _ => rfl) _
  have hp4 : PsAt (wc.setCell ⟨bp, 6, none⟩ (.bool c)) bp { p with corner := c } := hp3.set 6 _ _ rfl (by decide)
  have hB4 := hB3.keep1 h1 (hB3.ne_of_type htl (by decide))
  have hown4 := ownsRow_keep hown3 h1 (fun k hk x => own_ne_ps hown3 hp3 (by decide) (by rw [← x]; exact hk))
  have hr4 : LineAt (wc.setCell ⟨bp, 6, none⟩ (.bool c)) (w.heap.size + 1) 0 ⟨#[]⟩ 0 := Blk.keep1 hr3 h1 (Ne.symm hne)
  generalize (wc.setCell ⟨bp, 6, none⟩ (.bool c) : World) = w4 at *
  have h5 := (put5 hr4 0 ⟨#[]⟩ 0).1
  obtain ⟨tail4, htl4⟩ := id hp4
  refine ⟨(hm3.then h1 (fun _ _ h => Or.inl h)).then h5 (fun b hb h => by omega), c, g, cap, hp4.keep h5 (fun h => htl4.ne_of_type hr4 (by decide) h), hB4.keep1 h5 (hB4.ne_of_type hr4 (by decide)), ownsRow_keep hown4 h5 (fun k hk x => own_ne hown4 hr4 (by decide) (by rw [← x]; exact hk)), hloc⟩

set_option maxRecDepth 100000 in
set_option maxHeartbeats 8000000 in
theorem fence_extend (bp fb m M : Nat) (p : PSt) (tv : Value) (xs : List Value) (text : ByteArray) (nl : Int) (w : World) (hT : Txt text) (hs9 : text.size ≤ 80000) (hM9 : M ≤ 80000) (hE : EntAt w) (hp : PsAt w bp p)
    (hB : Blk w fb #[.string (fenceT M), .string ⟨#[]⟩, .int .i64 0, tv] 253) (hown : w.ownsRow 0 9 1 tv m xs) (hm : m ≤ 100000) (hin : runC text 126 (p3 text 0) < M) :
    Calls Tryz.prog 340 #[.pointer (some ⟨fb, 0, none⟩), .pointer (some ⟨bp, 0, none⟩), LV 0 text nl] w fun e w' => e = .returned (.tuple #[zeroLV, .bool true]) ∧ Taken w w' bp fb m M p tv xs text := by
  go_enter Tryz.func340, Tryz.ntmps340
  go_wp2_with fail
  generalize hW : ((((((w.alloc _).alloc _).alloc _).alloc _).alloc _).alloc _ : World) = W
  have hm0 : Same w W := by subst hW; exact ((((((Mods.refl _ w).alloc _).alloc _).alloc _).alloc _).alloc _).alloc _
  have hb : LineAt W w.heap.size 0 text nl := by subst hW; exact (((((Blk.newAt _ _ rfl).alloc _).alloc _).alloc _).alloc _).alloc _
  have hr : LineAt W (w.heap.size + 1) 0 ⟨#[]⟩ 0 := by subst hW; exact ((((Blk.newAt _ _ (by simp)).alloc _).alloc _).alloc _).alloc _
  have hf : Blk W (w.heap.size + 1 + 1) #[.string ⟨#[]⟩] 9 := by subst hW; exact (((Blk.newAt _ _ (by simp)).alloc _).alloc _).alloc _
  have hi : Blk W (w.heap.size + 1 + 1 + 1) #[.string ⟨#[]⟩] 9 := by subst hW; exact ((Blk.newAt _ _ (by simp)).alloc _).alloc _
  have hn4 : Blk W (w.heap.size + 1 + 1 + 1 + 1) #[.int .i64 0] 3 := by subst hW; exact (Blk.newAt _ _ (by simp)).alloc _
  have hl : LineAt W (w.heap.size + 1 + 1 + 1 + 1 + 1) 0 text nl := by subst hW; exact Blk.newAt _ _ (by simp)
  clear hW
  have HTF : ∀ V, Same W V → Calls Tryz.prog 151 #[.pointer (some ⟨w.heap.size + 1 + 1 + 1 + 1 + 1, 0, none⟩), .pointer (some ⟨w.heap.size + 1 + 1, 0, none⟩), .pointer (some ⟨w.heap.size + 1 + 1 + 1, 0, none⟩), .pointer (some ⟨w.heap.size + 1 + 1 + 1 + 1, 0, none⟩)] V (FencePost V (w.heap.size + 1 + 1 + 1 + 1 + 1) (w.heap.size + 1 + 1 + 1 + 1) (w.heap.size + 1 + 1) (w.heap.size + 1 + 1 + 1) text nl) :=
    fun V hV => trimFence_any _ _ _ _ _ _ _ text nl V hT hs9 (Same.blk hV hl) (hV.blk hn4) (hV.blk hf) (hV.blk hi) (by omega) ((hE.same hm0).same hV)
  go_cut [25] (fun s25 wx => s25 = .bool false ∧ Same w wx ∧ LineAt wx w.heap.size 0 text nl ∧ LineAt wx (w.heap.size + 1) 0 ⟨#[]⟩ 0)
  case first =>
    have hEW := hm0
    cases hfo : fenceOf text with
    | none =>
      have HT1 : ∀ V, Same W V → Calls Tryz.prog 151 #[.pointer (some ⟨w.heap.size + 1 + 1 + 1 + 1 + 1, 0, none⟩), .pointer (some ⟨w.heap.size + 1 + 1, 0, none⟩), .pointer (some ⟨w.heap.size + 1 + 1 + 1, 0, none⟩), .pointer (some ⟨w.heap.size + 1 + 1 + 1 + 1, 0, none⟩)] V fun e V' => e = .returned (.bool false) ∧ Mods (fun k => k = w.heap.size + 1 + 1 + 1 + 1) V V' :=
        fun V hV => (HTF V hV).mono fun e V' h => by unfold FencePost at h; rw [hfo] at h; exact ⟨h.1, h.2.1⟩
      first
        | go_region_with ((go_at_call 151; refine (HT1 _ (by repeat (first | exact Mods.refl _ _ | apply Mods.drew))).mono ?_; rintro e1 w1 ⟨rfl, hm1⟩))
        | fail
      all_goals
        have hb1 : LineAt w1 w.heap.size 0 text nl := Blk.keep1 (Blk.drew hb) hm1 (by omega)
        have hr1 : LineAt w1 (w.heap.size + 1) 0 ⟨#[]⟩ 0 := Blk.keep1 (Blk.drew hr) hm1 (by omega)
        go_wp2_with fail
        go_meet
        case rel => exact ⟨rfl, (Mods.drew hm0).then hm1 (fun b hb h => by omega), hb1, hr1⟩
    | some fi =>
      obtain ⟨f, info⟩ := fi
      have hFY := fenceOf_facts hfo
      have hnp := not_prefix hFY hin
      have hfs := fence_size hFY hs9
      have hFs : (fenceT M).size ≤ 100000000 := by rw [fenceT_size]; omega
      have hBW := hm0.blk hB
      have HT1 : ∀ V, Same W V → Calls Tryz.prog 151 #[.pointer (some ⟨w.heap.size + 1 + 1 + 1 + 1 + 1, 0, none⟩), .pointer (some ⟨w.heap.size + 1 + 1, 0, none⟩), .pointer (some ⟨w.heap.size + 1 + 1 + 1, 0, none⟩), .pointer (some ⟨w.heap.size + 1 + 1 + 1 + 1, 0, none⟩)] V fun e V' => e = .returned (.bool true) ∧
          Mods (fun k => k = w.heap.size + 1 + 1 + 1 + 1 ∨ k = w.heap.size + 1 + 1 + 1 + 1 + 1 ∨ k = w.heap.size + 1 + 1 ∨ k = w.heap.size + 1 + 1 + 1) V V' ∧ V'.cell? ⟨w.heap.size + 1 + 1, 0, none⟩ = some (.string f) ∧ V'.cell? ⟨fb, 0, none⟩ = some (.string (fenceT M)) :=
        fun V hV => (HTF V hV).mono fun e V' h => by
          unfold FencePost at h
          rw [hfo] at h
          obtain ⟨h1, h2, _, h4, _, _⟩ := h
          refine ⟨h1, h2, h4.cell 0, ?_⟩
          have := hB.lt
          exact ((hV.blk hBW).keep h2 (by omega)).cell 0
      have hPF : ∀ V, Calls Tryz.prog 45 #[.string f, .string (fenceT M)] V fun e V' => e = .returned (.bool false) ∧ V = V' := fun V =>
        (hasPrefix_any f (fenceT M) V (by omega) hFs).mono fun e V' ⟨bb, h1, h2, h3⟩ => by
          have : bb = false := by
            cases bb
            · rfl
            · exact absurd (h3.1 rfl) hnp
          rw [this] at h1
          exact ⟨h1, h2⟩
      first
        | go_region_with (first
            | (go_at_call 151; refine (HT1 _ (by repeat (first | exact Mods.refl _ _ | apply Mods.drew))).mono ?_; rintro e1 w1 ⟨rfl, hm1, c1, c2⟩)
            | (go_at_call 45; refine (hPF _).mono ?_; rintro e2 w2 ⟨rfl, rfl⟩))
        | fail
      all_goals
        have hb1 : LineAt w1 w.heap.size 0 text nl := Blk.keep (Blk.drew hb) hm1 (by omega)
        have hr1 : LineAt w1 (w.heap.size + 1) 0 ⟨#[]⟩ 0 := Blk.keep (Blk.drew hr) hm1 (by omega)
        go_wp2_with fail
        go_meet
        case rel => exact ⟨rfl, (Mods.drew hm0).then hm1 (fun b hb h => by omega), hb1, hr1⟩
  case rest =>
    obtain ⟨rfl, hmx, hbx, hrx⟩ := hcut
    have hBx := hmx.blk hB
    have hpx := hp.same hmx
    have hownx := ownsRow_keep hown hmx (fun _ _ x => x)
    have hbpl := hp.lt
    have hfbl := hB.lt
    have HOL : Hid (∀ g, tv.ownBlock = some g → g < w.heap.size) := Lib.hid (fun g hg => (hown.lt g hg).2)
    have hne1 : fb ≠ bp := by
      obtain ⟨tail, htl⟩ := id hp
      exact hB.ne_of_type htl (by decide)
    have q2 : wc.cell? ⟨fb, 2, none⟩ = some (.int .i64 0) := hBx.cell 2
    have hTS : ∀ V, Same wc V → Calls Tryz.prog 153 #[.pointer (some ⟨w.heap.size, 0, none⟩), .int .i64 0, .int .i64 0, .bool false] V fun e V' => e = .returned (.bool true) ∧ Mods (fun k => k = w.heap.size) V V' ∧ LineAt V' w.heap.size 0 text nl :=
      fun V hV => (trimSpace_any w.heap.size text 0 0 0 false nl V (by omega) (by omega) (Nat.zero_le _) hT (hV.blk hbx)).mono fun e V' h => h
    clear hB hown hp hl hn4 hi hf hr hb HTF hm0 hE
    go_wp2_with fail
    obtain ⟨wX, hwX⟩ : ∃ v, v = wc := ⟨wc, rfl⟩
    subst hwX
    go_cut [36] (fun s36 wx => s36 = .bool false ∧ Mods (fun k => k = w.heap.size) wX wx ∧ LineAt wx w.heap.size 0 text nl)
    case first =>
      first
        | go_region_with ((go_at_call 153; refine (hTS _ (by repeat (first | exact Mods.refl _ _ | apply Mods.drew))).mono ?_; rintro e1 w1 ⟨rfl, hm1, hl1⟩))
        | fail
      all_goals
        go_wp2_with fail
        go_meet
        case rel => exact ⟨rfl, (Mods.drew (Mods.refl (fun k => k = w.heap.size) wX)).trans hm1, hl1⟩
    case rest =>
      obtain ⟨rfl, hm2, hb2⟩ := hcut
      obtain ⟨wd, hwd⟩ : ∃ v, v = wc := ⟨wc, rfl⟩
      subst hwd
      have hmw : Same w wd := hmx.then hm2 (fun b hb h => by omega)
      have hB2 := hBx.keep1 hm2 (by omega)
      have hp2 := hpx.keep hm2 (by omega)
      have hown2 := ownsRow_keep hownx hm2 (fun g hg h => by have := HOL.out g hg; omega)
      have hr2 : LineAt wd (w.heap.size + 1) 0 ⟨#[]⟩ 0 := Blk.keep1 hrx hm2 (by omega)
      have HS : ∀ V, Same wd V → Calls Tryz.prog 136 #[.pointer (some ⟨w.heap.size, 0, none⟩)] V fun e V' => e = .returned (.string text) ∧ Same wd V' ∧ V'.cell? ⟨fb, 3, none⟩ = some tv ∧ fb < V'.heap.size := fun V hV =>
        (lineString_any w.heap.size 0 text nl V hT.size (Nat.zero_le _) (Same.blk hV hb2)).mono fun e V' ⟨h1, n, h2⟩ => by
          subst h2
          rw [ext_all] at h1
          have hVn : Same wd (V.drewN n) := Mods.drewN hV n
          exact ⟨h1, hVn, (Same.blk hVn hB2).cell 3, (Same.blk hVn hB2).lt⟩
      have q3 : wd.cell? ⟨fb, 3, none⟩ = some tv := hB2.cell 3
      clear hBx hpx hownx hmx hm2 hrx hbx q2 hTS
      go_wp2_with fail
      go_cut [] (fun wx => ∃ g cap, Mods (fun k => k = fb ∨ tv.ownBlock = some k) wd wx ∧ PsAt wx bp p ∧ Blk wx fb #[.string (fenceT M), .string ⟨#[]⟩, .int .i64 0, .slice (some ⟨g, 0, none⟩) (m + 1) cap] 253 ∧ wx.ownsRow 0 9 1 (.slice (some ⟨g, 0, none⟩) (m + 1) cap) (m + 1) (xs ++ [.string text]) ∧ (tv.ownBlock = some g ∨ w.heap.size ≤ g))
      case first =>
        first
          | go_region_law (first
              | (refine st_str rfl (.tmp 49) (.tmp 51) rfl tv m xs rfl (ownsRow_keep hown2 (Mods.alloc hS1 _) (fun _ _ x => x)) w1.heap.size 1 text rfl ((Blk.newAt _ _ rfl).cell 0) (by omega) ?_; intro g cap w5 hown5 hgrow hloc; obtain ⟨hB5, hp5, hm5, c5, f5, l5⟩ := take_facts (hS1.blk hB2) (hp2.same hS1) (ownsRow_keep hown2 hS1 (fun _ _ x => x)) hgrow)
              | (go_simp; go_wp2_with ((go_at_call 136; refine (HS _ (by repeat (first | exact Mods.refl _ _ | apply Mods.drew))).mono ?_; rintro e1 w1 ⟨rfl, hS1, q1, l1⟩))))
          | fail
        all_goals
          go_wp2_with fail
          go_meet
          case rel => exact take_done hS1 hmw.size hm5 hB5 hp5 hown5 hloc
      case rest =>
        obtain ⟨g, cap, hm3, hp3, hB3, hown3, hloc3⟩ := hcut
        have hb3 : LineAt wc w.heap.size 0 text nl := Blk.keep hb2 hm3 (fun h => h.elim (fun h => by omega) (fun h => by have := HOL.out _ h; omega))
        have hr3 : LineAt wc (w.heap.size + 1) 0 ⟨#[]⟩ 0 := Blk.keep hr2 hm3 (fun h => h.elim (fun h => by omega) (fun h => by have := HOL.out _ h; omega))
        have hmw3 : Mods (fun k => k = bp ∨ k = fb ∨ tv.ownBlock = some k) w wc := (hmw.mono (fun _ _ h => absurd h (fun x => x))).then hm3 (fun _ _ h => Or.inr h)
        have hbpl3 := hp3.lt
        have k6 := hp3.corner
        have f6 := hp3.fr 6
        obtain ⟨g0, g1, g2, g3, g4, gf0, gf1, gf2, gf3, gf4, gbl⟩ := LineAt.facts hb3
        clear q3 HS hm3 hown2 hp2 hB2 hr2 hb2 hb3 gf0 gf1 gf2 gf3 gf4
        have HM3 := Lib.hid hmw3
        have HP3 := Lib.hid hp3
        have HB3 := Lib.hid hB3
        have HO3 := Lib.hid hown3
        have HR3 := Lib.hid hr3
        have HL3 := Lib.hid hloc3
        clear hmw3 hp3 hB3 hown3 hr3 hloc3
        cases hpc : p.corner
        all_goals
          rw [hpc] at k6
          have HPC := Lib.hid hpc
          clear hpc
          have hr3 : LineAt wc (w.heap.size + 1) 0 ⟨#[]⟩ 0 := HR3.out
          obtain ⟨r0, r1, r2, r3, r4, rf0, rf1, rf2, rf3, rf4, rbl⟩ := LineAt.facts hr3
          have hneR : bp ≠ w.heap.size + 1 := by omega
          clear hr3
          go_wp2_with fail
          all_goals
            refine bodyPost_ret (v := .tuple #[zeroLV, .bool true]) (by simp [results, Tryz.results340, go_sem, r0, r1, r2, r3, r4]) rfl ?_
            exact ⟨rfl, take_end HP3.out HB3.out HO3.out HL3.out HR3.out HM3.out hneR _⟩
end Go.Proofs.YtdnlfdppjfjncaaGreatDoor
