/- Some texts of one proof, put into one file: Cont2, Cont3, Auto1, Auto2, Close2, Close3. -/
import Derived.Deep.RegionWith
import Derived.Test.YtdnlfdppjfjncaaGreatDoorAu3
/- newPara where a paragraph is open: the line goes on with it. -/
namespace Go.Proofs.YtdnlfdppjfjncaaGreatDoor
open Go Go.RowKit Go.Proofs

/-- The last line of the open blocks from place d on. -/
def updE (L : List OB) (d m : Nat) (e : Int) : List OB := L.mapIdx (fun i o => if d ≤ i ∧ i < m then { o with e := e } else o)

theorem updE_len (L : List OB) (d m : Nat) (e : Int) : (updE L d m e).length = L.length := by simp [updE]
theorem updE_get (L : List OB) (d m : Nat) (e : Int) (i : Nat) : (updE L d m e)[i]? = L[i]?.map (fun o => if d ≤ i ∧ i < m then { o with e := e } else o) := by simp [updE, List.getElem?_mapIdx]
theorem updE_zero (L : List OB) (d : Nat) (e : Int) : updE L d d e = L := by
  apply List.ext_getElem?
  intro i
  rw [updE_get]
  have : ¬ (d ≤ i ∧ i < d) := by omega
  simp [this]

theorem obCells_set : ∀ (L : List OB) (k : Nat) (o : OB) (e : Int), L[k]? = some o → (obCells L).set (k * 4 + 3) (.int .i64 e) = obCells (L.set k { o with e := e })
  | [], k, o, e, h => by simp at h
  | x :: L, 0, o, e, h => by
    simp at h
    subst h
    simp [obCells, OB.cells]
  | x :: L, k + 1, o, e, h => by
    simp at h
    have ih := obCells_set L k o e h
    simp only [List.set_cons_succ, obCells, ← ih]
    rw [List.set_append_right _ _ (by simp [OB.len]; omega), OB.len]
    congr 2
    omega

theorem updE_step (L : List OB) (d m : Nat) (e : Int) (o : OB) (hd : d ≤ m) (h : (updE L d m e)[m]? = some o) : (updE L d m e).set m { o with e := e } = updE L d (m + 1) e := by
  apply List.ext_getElem?
  intro i
  rw [List.getElem?_set, updE_get, updE_get]
  by_cases hi : m = i
  · subst hi
    rw [updE_get] at h
    obtain ⟨o', ho', hoo⟩ := Option.map_eq_some_iff.1 h
    have hm : m < L.length := (List.getElem?_eq_some_iff.1 ho').1
    have h1 : ¬ (d ≤ m ∧ m < m) := by omega
    have h2 : d ≤ m ∧ m < m + 1 := by omega
    rw [if_neg h1] at hoo
    subst hoo
    rw [if_pos rfl, if_pos (by rw [updE_len]; exact hm), ho']
    simp [h2]
  · rw [if_neg hi]
    congr 1
    funext o
    have : (d ≤ i ∧ i < m) ↔ (d ≤ i ∧ i < m + 1) := by omega
    simp only [this]

/-- A paragraph of some lines is open, at place n of the stack L. -/
structure ParaL (w : World) (bp g n cap : Nat) (p : PSt) (L : List OB) (bb gt ct m : Nat) (xs : List ByteArray) : Prop where
  at_ : PsAt w bp p
  stack : p.stack = .slice (some ⟨g, 0, none⟩) (n + 1) cap
  small : n ≤ 1000
  len : L.length = n + 1
  row : w.ownsRow 0 121 4 (.slice (some ⟨g, 0, none⟩) (n + 1) cap) (n + 1) (obCells L)
  top : ∃ o, L[n]? = some o ∧ o.b = .iface 162 (.pointer (some ⟨bb, 0, none⟩))
  blk : Blk w bb #[.slice (some ⟨gt, 0, none⟩) m ct, .pointer none] 166
  txt : w.ownsRow 0 9 1 (.slice (some ⟨gt, 0, none⟩) m ct) m (xs.map .string)

theorem ParaL.cell {w : World} {bp g n cap : Nat} {p : PSt} {L : List OB} {bb gt ct m : Nat} {xs : List ByteArray} (h : ParaL w bp g n cap p L bb gt ct m xs) (k j : Nat) (o : OB) (hk : L[k]? = some o) (hj : j < 4) (u : Value) (hu : o.cells[j]? = some u) :
    w.cell? ⟨g, k * 4 + j, none⟩ = some u := by
  obtain ⟨_, _, he, _, _, hc⟩ := ownsRow_form h.row (by omega)
  cases he
  exact hc (k * 4 + j) u (by rw [obCells_get L k j o hk hj]; exact hu)

theorem ParaL.inPara {w : World} {bp g n cap : Nat} {p : PSt} {L : List OB} {bb gt ct m : Nat} {xs : List ByteArray} (h : ParaL w bp g n cap p L bb gt ct m xs) : InPara w bp g n cap p bb := by
  obtain ⟨o, h1, h2⟩ := h.top
  exact ⟨h.at_, h.stack, h.small, h.cell n 0 o h1 (by omega) _ (by rw [← h2]; rfl)⟩

theorem ParaL.same {w w' : World} {bp g n cap : Nat} {p : PSt} {L : List OB} {bb gt ct m : Nat} {xs : List ByteArray} (h : ParaL w bp g n cap p L bb gt ct m xs) (hm : Same w w') : ParaL w' bp g n cap p L bb gt ct m xs :=
  ⟨h.at_.same hm, h.stack, h.small, h.len, ownsRow_keep h.row hm (fun _ _ x => x), h.top, hm.blk h.blk, ownsRow_keep h.txt hm (fun _ _ x => x)⟩

/-- The last line of one open block is stored. -/
theorem ParaL.setE {w : World} {bp g n cap : Nat} {p : PSt} {L : List OB} {bb gt ct m : Nat} {xs : List ByteArray} (h : ParaL w bp g n cap p L bb gt ct m xs) (k : Nat) (o : OB) (e : Int) (hk : L[k]? = some o) :
    ParaL (w.setCell ⟨g, k * 4 + 3, none⟩ (.int .i64 e)) bp g n cap p (L.set k { o with e := e }) bb gt ct m xs ∧ Mods (fun b => b = g) w (w.setCell ⟨g, k * 4 + 3, none⟩ (.int .i64 e)) ∧
      w.frozen? ⟨g, k * 4 + 3, none⟩ = false ∧ g < w.heap.size := by
  have hkl : k < n + 1 := by have := (List.getElem?_eq_some_iff.1 hk).1; have := h.len; omega
  obtain ⟨_, _, he, ⟨cur, hcur⟩, hfr, _⟩ := ownsRow_form h.row (by omega)
  cases he
  obtain ⟨tail, htl⟩ := id h.at_
  have hgbp : g ≠ bp := hcur.ne_of_type htl (by decide)
  have hgb : g ≠ bb := hcur.ne_of_type h.blk (by decide)
  have hm : Mods (fun b => b = g) w (w.setCell ⟨g, k * 4 + 3, none⟩ (.int .i64 e)) := (Mods.refl (fun b => b = g) w).setCell (p := ⟨g, k * 4 + 3, none⟩) (fun _ => rfl) _
  refine ⟨⟨h.at_.keep hm hgbp.symm, h.stack, h.small, by rw [List.length_set]; exact h.len, ?_, ?_, h.blk.keep hm hgb.symm, ownsRow_keep h.txt hm (fun b hb x => ?_)⟩, hm, hcur.fr _, hcur.lt⟩
  · have := ownsRow_set h.row (k * 4 + 3) (.int .i64 e) (by omega)
    rwa [obCells_set L k o e hk] at this
  · obtain ⟨o2, h1, h2⟩ := h.top
    by_cases hkn : k = n
    · subst hkn
      rw [hk] at h1
      cases h1
      exact ⟨{ o with e := e }, by rw [List.getElem?_set, if_pos rfl, if_pos (by have := h.len; omega)], h2⟩
    · exact ⟨o2, by rw [List.getElem?_set, if_neg hkn]; exact h1, h2⟩
  · cases hb
    exact own_ne h.txt hcur (by decide) (by rw [← x]; rfl)
end Go.Proofs.YtdnlfdppjfjncaaGreatDoor

/- newPara where a paragraph is open: the line goes on with it: the walk. -/
namespace Go.Proofs.YtdnlfdppjfjncaaGreatDoor
open Go Go.RowKit Go.Proofs

theorem Blk.own_ne {w : World} {b T g n cap e size : Nat} {cs : Array Value} {xs : List Value} (hb : Blk w b cs T) (h : w.ownsRow 0 e size (.slice (some ⟨g, 0, none⟩) n cap) n xs) (hT : T ≠ e) : b ≠ g := by
  intro he
  exact Go.Proofs.YtdnlfdppjfjncaaGreatDoor.own_ne h hb hT (by rw [he]; rfl)

set_option maxRecDepth 100000 in
set_option maxHeartbeats 8000000 in
theorem newPara_cont (bp g n cap : Nat) (p : PSt) (L : List OB) (bb gt ct m : Nat) (xs : List ByteArray) (d : Nat) (text : ByteArray) (i : Nat) (nl : Int) (w : World) (h : ParaL w bp g n cap p L bb gt ct m xs) (hd : p.depth = d) (hdn : d ≤ n)
    (hi : i ≤ text.size) (hs : text.size ≤ 1000000) (hO : Opt w p 5 false) (hpp : p.parser ≠ g) (hm0 : 0 < m) (hm6 : m ≤ 100000) :
    Calls Tryz.prog 72 #[.pointer (some ⟨bp, 0, none⟩), LV i text nl] w fun e w' => e = .returned (.tuple #[zeroLV, .bool true]) ∧
      Mods (fun k => k = g ∨ k = bb ∨ k = gt) w w' ∧ ∃ gt' ct', ParaL w' bp g n cap p (updE L d (n + 1) p.lineno) bb gt' ct' (m + 1) (xs ++ [trimL (text.extract i text.size)]) ∧ (gt' = gt ∨ w.heap.size ≤ gt') := by
  have HD := Lib.hid hd
  have HPP := Lib.hid hpp
  have hsm := h.small
  clear hd hpp
  go_enter Tryz.func72, Tryz.ntmps72
  go_wp2_with fail
  generalize hW : ((w.alloc _).alloc _ : World) = W
  have hmA : Same w W := by subst hW; exact ((Mods.refl _ w).alloc _).alloc _
  have hb : LineAt W w.heap.size i text nl := by subst hW; exact (Blk.newAt _ _ rfl).alloc _
  have hr : LineAt W (w.heap.size + 1) 0 ⟨#[]⟩ 0 := by subst hW; exact Blk.newAt _ _ (by simp)
  clear hW
  have h1 := h.same hmA
  have hO1 := hO.keep hmA (fun x => x)
  refine (para_yes bp g n cap p _ W h1.at_ h1.stack (by omega) h1.inPara.top).mono ?_
  rintro e w1 ⟨rfl, n1, rfl⟩
  have k4 := h1.at_.stack
  rw [h1.stack] at k4
  have k5 := h1.at_.depth
  rw [HD.out] at k5
  have e1 : IntKind.i64.wrap ((n : Int) + 1 - 2) = (n : Int) - 1 := by rw [IntWalk.i64_in _ (by omega)]; omega
  go_wp2_with fail
  go_quiet (fail)
  generalize hX : ((W.drewN n1).drewN _ : World) = W2
  have hm1 : Same W W2 := by subst hX; exact ((Mods.refl _ W).drewN _).drewN _
  clear hX k4 k5 e1
  have h2 := h1.same hm1
  have hb2 := Same.blk hm1 hb
  have hr2 := Same.blk hm1 hr
  have hO2 := hO1.keep hm1 (fun x => x)
  have hk := hmA.trans hm1
  clear h1 hb hr hO1 hmA hm1
  go_wp2_with fail
  refine (trimSpaceString_any _ _ _ _ _ hs hi hb2).mono ?_
  rintro e w3 ⟨rfl, n3, rfl⟩
  have hm3 : Same W2 (W2.drewN n3) := (Mods.refl _ W2).drewN _
  generalize W2.drewN n3 = W3 at *
  have h3 := h2.same hm3
  have hr3 := Same.blk hm3 hr2
  have hO3 := hO2.keep hm3 (fun x => x)
  have hk3 := hk.trans hm3
  clear h2 hb2 hr2 hO2 hk hm3
  have o5 := hO3.cell
  have k0 := h3.at_.parser
  have hpl : p.parser < W3.heap.size := World.block_lt_of_cell? _ _ o5
  have hbpl := h3.at_.lt
  have b1 : W3.cell? ⟨bb, 1, none⟩ = some (.pointer none) := h3.blk.cell 1
  have bbl := h3.blk.lt
  go_wp2_with fail
  go_quiet (fail)
  generalize hX : (W3.drewN _ : World) = W4
  have hm4 : Same W3 W4 := by subst hX; exact (Mods.refl _ W3).drewN _
  clear hX o5 k0 hpl hbpl b1 bbl
  have h4 := h3.same hm4
  have hr4 := Same.blk hm4 hr3
  have hk4 := hk3.trans hm4
  clear h3 hr3 hO3 hk3 hm4
  have k5 := h4.at_.depth
  rw [HD.out] at k5
  go_wp2_with fail
  go_loopg [11] (n + 1 - d) (fun k v wr => ∃ j : Nat, v = .int .i64 j ∧ k = n + 1 - j ∧ d ≤ j ∧ j ≤ n + 1 ∧ Mods (fun b => b = g) W4 wr ∧ ParaL wr bp g n cap p (updE L d j p.lineno) bb gt ct m xs)
  case atStart => exact ⟨d, rfl, rfl, Nat.le_refl _, by omega, Mods.refl _ _, by rw [updE_zero]; exact h4⟩
  case round =>
    clear k5
    obtain ⟨j, rfl, hg, hj1, hj2, hmr, hr5⟩ := hrel
    have HG := Lib.hid hg
    clear hg
    have k4 := hr5.at_.stack
    rw [hr5.stack] at k4
    have w1 : IntKind.i64.wrap ((j : Int) + 1) = (j : Int) + 1 := IntWalk.i64_in _ (by omega)
    by_cases hlt : j < n + 1
    · have v1 : (j : Int) < (n : Int) + 1 := by omega
      have v2 : (0 : Int) ≤ j := by omega
      have hjl : j < (updE L d j p.lineno).length := by rw [updE_len]; have := hr5.len; rw [updE_len] at this; omega
      obtain ⟨o, ho⟩ : ∃ o, (updE L d j p.lineno)[j]? = some o := ⟨_, List.getElem?_eq_getElem hjl⟩
      obtain ⟨hset, hmset, hfz, hgl⟩ := hr5.setE j o p.lineno ho
      rw [updE_step L d j p.lineno o hj1 ho] at hset
      have hc3 : wr.cell? ⟨g, j * 4 + 2 + 1, none⟩ = some (.int .i64 o.e) := hr5.cell j 3 o ho (by omega) _ rfl
      have hfz3 : wr.frozen? ⟨g, j * 4 + 2 + 1, none⟩ = false := hfz
      have hset3 : ParaL (wr.setCell ⟨g, j * 4 + 2 + 1, none⟩ (.int .i64 p.lineno)) bp g n cap p (updE L d (j + 1) p.lineno) bb gt ct m xs := hset
      have hmset3 : Mods (fun b => b = g) wr (wr.setCell ⟨g, j * 4 + 2 + 1, none⟩ (.int .i64 p.lineno)) := hmset
      clear hset hmset hfz
      have k3 := hr5.at_.lineno
      have hbpl := hr5.at_.lt
      have HSET := Lib.hid hset3
      have HM := Lib.hid (hmr.trans hmset3)
      clear ho hset3 hmset3 hmr hr5 h4
      go_wp2_with fail
      go_region
      all_goals
        go_wp2_with fail
        go_roundg (n + 1 - (j + 1))
        case measure => have := HG.out; omega
        case rel => exact ⟨j + 1, rfl, rfl, by omega, by omega, HM.out.drew, HSET.out.same ((Mods.refl _ _).drew)⟩
    · have v1 : ¬ (j : Int) < (n : Int) + 1 := by omega
      have hjn : j = n + 1 := by omega
      subst hjn
      have b0 : wr.cell? ⟨bb, 0, none⟩ = some (.slice (some ⟨gt, 0, none⟩) m ct) := hr5.blk.cell 0
      have bf := hr5.blk.fr 0
      have bl := hr5.blk.lt
      have hxl : (xs.map Value.string).length = m := by have := hr5.txt.1; omega
      go_wp2_with (at_builtin; refine ap_str rfl (.tmp 168) (.tmp 170) rfl _ m (xs.map .string) rfl (hr5.txt.alloc _) wr.heap.size 1 (trimL (text.extract i text.size)) rfl ((Blk.newAt (w := wr) _ _ rfl).cell 0) (by omega) ?_)
      intro g6 cap6 w6 hown6 hgrow hloc
      have hne : w.heap.size + 1 ≠ g := hr4.own_ne h4.row (by decide)
      have hr5' := hr4.keep1 hmr hne
      have hm6' : Mods (fun k => k = gt) wr w6 := ((Mods.refl (fun k => k = gt) wr).alloc _).trans ((grown_mods hgrow).mono (fun k _ h => (Option.some.inj h).symm))
      have hB6 := (hr5.blk).keep1 hm6' (hr5.blk.own_ne hr5.txt (by decide))
      have hr6 := hr5'.keep1 hm6' (hr5'.own_ne hr5.txt (by decide))
      have hp6 := hr5.at_.keep hm6' (by
        obtain ⟨tail, htl⟩ := id hr5.at_
        exact htl.own_ne hr5.txt (by decide))
      have hown6s := ownsRow_keep hr5.row hm6' (fun b hb x => by
        cases hb
        obtain ⟨_, _, he, ⟨cur, hcur⟩, _, _⟩ := ownsRow_form hr5.row (by omega)
        cases he
        exact hcur.own_ne hr5.txt (by decide) x)
      have HLOC := Lib.hid hloc
      have HST := Lib.hid hr5.stack
      have HLEN := Lib.hid hr5.len
      have HTOP := Lib.hid hr5.top
      have HM := Lib.hid ((hk4.mono (S' := fun k => k = g ∨ k = bb ∨ k = gt) (fun _ _ h => absurd h (fun x => x))).then (hmr.mono (fun _ _ h => Or.inl h)) (fun _ _ h => h) |>.then (hm6'.mono (S' := fun k => k = g ∨ k = bb ∨ k = gt) (fun _ _ h => Or.inr (Or.inr h))) (fun _ _ h => h))
      have hz := hk4.size
      have hz2 := hmr.size
      clear b0 bf bl hgrow hloc hr5 hr5' hm6' hmr h4 hr4 hk4
      have b0 : w6.cell? ⟨bb, 0, none⟩ = some (.slice (some ⟨gt, 0, none⟩) m ct) := hB6.cell 0
      have bf := hB6.fr 0
      have bl := hB6.lt
      obtain ⟨r0, r1, r2, r3, r4, rf0, rf1, rf2, rf3, rf4, rbl⟩ := LineAt.facts hr6
      have hne : bb ≠ w.heap.size + 1 := hB6.ne_of_type hr6 (by decide)
      go_wp2
      have hL7 : LineAt (w6.setCell ⟨bb, 0, none⟩ (.slice (some ⟨g6, 0, none⟩) (m + 1) cap6)) (w.heap.size + 1) 0 ⟨#[]⟩ 0 := Blk.set_other hr6 (a := ⟨bb, 0, none⟩) hne _
      have hB7 := hB6.set_same 0 (.slice (some ⟨g6, 0, none⟩) (m + 1) cap6)
      have hm7 : Mods (fun k => k = bb ∨ k = w.heap.size + 1) w6 (P5 (w6.setCell ⟨bb, 0, none⟩ (.slice (some ⟨g6, 0, none⟩) (m + 1) cap6)) (w.heap.size + 1) 0 ⟨#[]⟩ 0) :=
        ((Mods.refl (fun k => k = bb ∨ k = w.heap.size + 1) w6).setCell (p := ⟨bb, 0, none⟩) (fun _ => Or.inl rfl) _).trans ((put5 hL7 0 ⟨#[]⟩ 0).1.mono (fun _ _ h => Or.inr h))
      obtain ⟨tail, htl⟩ := id hp6
      refine bodyPost_ret (v := .tuple #[zeroLV, .bool true]) (by simp [results, Tryz.results72, go_sem, r0, r1, r2, r3, r4]) rfl ⟨rfl, ?_, g6, cap6, ⟨hp6.keep hm7 ?_, HST.out, hsm, HLEN.out, ?_, HTOP.out, ?_, ?_⟩, ?_⟩
      · exact HM.out.then hm7 (fun b hb h => by
          rcases h with h | h
          · exact Or.inr (Or.inl h)
          · omega)
      · intro h
        rcases h with h | h
        · exact htl.ne_of_type hB6 (by decide) h
        · exact htl.ne_of_type hr6 (by decide) h
      · exact ownsRow_keep hown6s hm7 (fun b hb x => by
          cases hb
          rcases x with x | x
          · exact hB6.own_ne hown6s (by decide) x.symm
          · exact hr6.own_ne hown6s (by decide) x.symm)
      · exact hB7.keep1 (put5 hL7 0 ⟨#[]⟩ 0).1 hne
      · rw [List.map_append]
        exact ownsRow_keep hown6 hm7 (fun b hb x => by
          cases hb
          rcases x with x | x
          · exact hB6.own_ne hown6 (by decide) x.symm
          · exact hr6.own_ne hown6 (by decide) x.symm)
      · rcases HLOC.out with h | h
        · exact Or.inl (Option.some.inj h).symm
        · right; omega
end Go.Proofs.YtdnlfdppjfjncaaGreatDoor

/- addLine: the first line of a paragraph, where a trial may set the state's corner. -/
namespace Go.Proofs.YtdnlfdppjfjncaaGreatDoor
open Go Go.RowKit Go.Proofs

/-- None of the eight functions begins a block with this line; one may set the corner. -/
def TriesNoC (bp g cap : Nat) (p : PSt) (T : Nat) (v : Value) (text : ByteArray) (nl : Int) : Prop :=
  ∀ c W, NoPara W bp g 0 cap { p with corner := c } T v → ∀ f ∈ [95, 96, 97, 98, 99, 100, 101, 102],
    Calls Tryz.prog f #[.pointer (some ⟨bp, 0, none⟩), LV 0 text nl] W fun e w' => e = .returned (.tuple #[LV 0 text nl, .bool false]) ∧ Mods (fun k => k = bp) W w' ∧ ∃ c', PsAt w' bp { p with corner := c' }

theorem NoPara.corner {w w' : World} {bp g cap : Nat} {p : PSt} {T : Nat} {v : Value} {c c' : Bool} (h : NoPara w bp g 0 cap { p with corner := c } T v) (hm : Mods (fun k => k = bp) w w') (hp : PsAt w' bp { p with corner := c' }) (hg : g ≠ bp) :
    NoPara w' bp g 0 cap { p with corner := c' } T v :=
  ⟨hp, h.stack, h.small, (World.cell?_of_block (hm.block g (World.block_lt_of_cell? _ _ h.top) hg)).trans h.top, h.other⟩

set_option maxRecDepth 100000 in
set_option maxHeartbeats 4000000 in
theorem addLine_firstC (bp g cap : Nat) (p : PSt) (T : Nat) (v : Value) (l : List Value) (text : ByteArray) (nl : Int) (w : World) (h : NoPara w bp g 0 cap p T v)
    (hs : text.size ≤ 1000000) (hbl : blankAt text 0 = false) (hO : Opt w p 5 false) (hown : w.ownsRow 0 121 4 p.stack 1 l) (hp51 : p.parser ≠ bp)
    (hN : TriesNoC bp g cap { p with depth := 0 } T v text nl) :
    Calls Tryz.prog 64 #[.pointer (some ⟨bp, 0, none⟩), LV 0 text nl] w fun e w' => e = .returned (.tuple #[]) ∧ ∃ c, ParaNew w w' bp { p with depth := 0, corner := c } 0 l (trimL (text.extract 0 text.size)) := by
  have k5 := h.at_.depth
  have f5 := h.at_.fr 5
  have hbpl := h.at_.lt
  go_enter Tryz.func64, Tryz.ntmps64
  go_wp2
  go_step3
  go_wp2
  generalize hW : (World.alloc _ _ : World) = W
  have hp0 : PsAt W bp { p with depth := 0 } := by subst hW; exact PsAt.alloc (h.at_.set 5 _ { p with depth := 0 } rfl (by decide)) _
  have hm0 : Mods (fun k => k = bp) w W := by subst hW; exact ((Mods.refl (fun k => k = bp) w).setCell (p := ⟨bp, 5, none⟩) (fun _ => rfl) _).alloc _
  have hbk : LineAt W w.heap.size 0 text nl := by subst hW; exact Blk.newAt _ _ (by simp)
  clear hW
  obtain ⟨tail, htl⟩ := id h.at_
  obtain ⟨_, _, he, ⟨cur, hcur⟩, _, _⟩ := ownsRow_form (h.stack ▸ hown) (by omega)
  cases he
  have hgbp : g ≠ bp := hcur.ne_of_type htl (by decide)
  have h0 : NoPara W bp g 0 cap { p with depth := 0 } T v := ⟨hp0, h.stack, h.small, (World.cell?_of_block (hm0.block g (World.block_lt_of_cell? _ _ h.top) hgbp)).trans h.top, h.other⟩
  have hown0 : W.ownsRow 0 121 4 p.stack 1 l := ownsRow_keep hown hm0 (by rw [h.stack]; intro k hk; cases hk; exact hgbp)
  have hO0 : Opt W p 5 false := hO.keep hm0 hp51
  have hpst := h.stack
  have k4 : W.cell? ⟨bp, 4, none⟩ = some (.slice (some ⟨g, 0, none⟩) 1 cap) := by have := hp0.stack; rw [h.stack] at this; exact this
  have k5' := hp0.depth
  have HPS := Lib.hid hpst
  clear k5 f5 hbpl hcur htl hpst
  go_loopg [] 0 (fun g wr => W = wr)
  case atStart => rfl
  case round =>
    subst hrel
    go_wp2_with fail
    go_quiet (fail)
    generalize hX : (W.drewN _ : World) = W1
    have hm1 : Same W W1 := by subst hX; exact (Mods.refl _ W).drewN _
    clear hX k4 k5'
    have hbk1 := Same.blk hm1 hbk
    go_wp2_with fail
    refine (isBlank_any _ _ _ _ _ hs (by omega) hbk1).mono ?_
    rintro e w2 ⟨rfl, n2, rfl⟩
    rw [show (trimL (text.extract 0 text.size)).toList.isEmpty = false from hbl]
    have hm2 : Same W (W1.drewN n2) := hm1.drewN _
    generalize W1.drewN n2 = W2 at *
    have hbk2 := Same.blk hm2 hbk
    clear hm1 hbk1 hbl
    go_wp2_with fail
    go_step3
    go_wp2_with fail
    refine (news_any _).mono ?_
    rintro e w3 ⟨nb, rfl, hm3, hnb⟩
    have hm4 := hm2.trans hm3
    have hbk3 := Same.blk hm3 hbk2
    have h3 : NoPara w3 bp g 0 cap { ({ p with depth := 0 } : PSt) with corner := p.corner } T v := h0.same hm4
    obtain ⟨tl3, htl3⟩ := id h3.at_
    have hbkn : w.heap.size ≠ bp := hbk3.ne_of_type htl3 (by decide)
    have hnbn : nb ≠ bp := hnb.ne_of_type htl3 (by decide)
    clear hm2 hbk2 htl3
    go_wp2
    go_loopg [88] 8 (fun gg j wr => ∃ k : Nat, gg = 8 - k ∧ j = .int .i64 k ∧ k ≤ 8 ∧ Mods (fun k => k = bp) w3 wr ∧ ∃ c, NoPara wr bp g 0 cap { ({ p with depth := 0 } : PSt) with corner := c } T v)
    case atStart => exact ⟨0, rfl, rfl, by omega, Mods.refl _ _, _, h3⟩
    case round =>
      clear h3
      obtain ⟨k, hg, rfl, hk8, hr5, c, h5⟩ := hrel
      have hbk5 := hbk3.keep1 hr5 hbkn
      have hnb5 := hnb.keep1 hr5 hnbn
      obtain ⟨g0, g1, g2, g3, g4, gf0, gf1, gf2, gf3, gf4, gbl⟩ := LineAt.facts hbk5
      have hcases : k = 0 ∨ k = 1 ∨ k = 2 ∨ k = 3 ∨ k = 4 ∨ k = 5 ∨ k = 6 ∨ k = 7 ∨ k = 8 := by omega
      rcases hcases with rfl | rfl | rfl | rfl | rfl | rfl | rfl | rfl | rfl
      · have n0 : wr.cell? ⟨nb, 0, none⟩ = some (.func (.func 95) #[] #[]) := hnb5.cell 0
        go_wp2_with fail
        refine (hN c wr h5 95 (by simp)).mono ?_
        rintro e w6 ⟨rfl, hm6, c6, hp6⟩
        clear n0 g0 g1 g2 g3 g4 gf0 gf1 gf2 gf3 gf4 gbl
        have h6 := h5.corner hm6 hp6 hgbp
        go_wp2
        go_roundg 7
        case measure => omega
        case rel => exact ⟨1, rfl, rfl, by omega, (hr5.trans hm6).alloc _, c6, h6.same ((Mods.refl _ w6).alloc _)⟩
      · have n0 : wr.cell? ⟨nb, 1, none⟩ = some (.func (.func 96) #[] #[]) := hnb5.cell 1
        go_wp2_with fail
        refine (hN c wr h5 96 (by simp)).mono ?_
        rintro e w6 ⟨rfl, hm6, c6, hp6⟩
        clear n0 g0 g1 g2 g3 g4 gf0 gf1 gf2 gf3 gf4 gbl
        have h6 := h5.corner hm6 hp6 hgbp
        go_wp2
        go_roundg 6
        case measure => omega
        case rel => exact ⟨2, rfl, rfl, by omega, (hr5.trans hm6).alloc _, c6, h6.same ((Mods.refl _ w6).alloc _)⟩
      · have n0 : wr.cell? ⟨nb, 2, none⟩ = some (.func (.func 97) #[] #[]) := hnb5.cell 2
        go_wp2_with fail
        refine (hN c wr h5 97 (by simp)).mono ?_
        rintro e w6 ⟨rfl, hm6, c6, hp6⟩
        clear n0 g0 g1 g2 g3 g4 gf0 gf1 gf2 gf3 gf4 gbl
        have h6 := h5.corner hm6 hp6 hgbp
        go_wp2
        go_roundg 5
        case measure => omega
        case rel => exact ⟨3, rfl, rfl, by omega, (hr5.trans hm6).alloc _, c6, h6.same ((Mods.refl _ w6).alloc _)⟩
      · have n0 : wr.cell? ⟨nb, 3, none⟩ = some (.func (.func 98) #[] #[]) := hnb5.cell 3
        go_wp2_with fail
        refine (hN c wr h5 98 (by simp)).mono ?_
        rintro e w6 ⟨rfl, hm6, c6, hp6⟩
        clear n0 g0 g1 g2 g3 g4 gf0 gf1 gf2 gf3 gf4 gbl
        have h6 := h5.corner hm6 hp6 hgbp
        go_wp2
        go_roundg 4
        case measure => omega
        case rel => exact ⟨4, rfl, rfl, by omega, (hr5.trans hm6).alloc _, c6, h6.same ((Mods.refl _ w6).alloc _)⟩
      · have n0 : wr.cell? ⟨nb, 4, none⟩ = some (.func (.func 99) #[] #[]) := hnb5.cell 4
        go_wp2_with fail
        refine (hN c wr h5 99 (by simp)).mono ?_
        rintro e w6 ⟨rfl, hm6, c6, hp6⟩
        clear n0 g0 g1 g2 g3 g4 gf0 gf1 gf2 gf3 gf4 gbl
        have h6 := h5.corner hm6 hp6 hgbp
        go_wp2
        go_roundg 3
        case measure => omega
        case rel => exact ⟨5, rfl, rfl, by omega, (hr5.trans hm6).alloc _, c6, h6.same ((Mods.refl _ w6).alloc _)⟩
      · have n0 : wr.cell? ⟨nb, 5, none⟩ = some (.func (.func 100) #[] #[]) := hnb5.cell 5
        go_wp2_with fail
        refine (hN c wr h5 100 (by simp)).mono ?_
        rintro e w6 ⟨rfl, hm6, c6, hp6⟩
        clear n0 g0 g1 g2 g3 g4 gf0 gf1 gf2 gf3 gf4 gbl
        have h6 := h5.corner hm6 hp6 hgbp
        go_wp2
        go_roundg 2
        case measure => omega
        case rel => exact ⟨6, rfl, rfl, by omega, (hr5.trans hm6).alloc _, c6, h6.same ((Mods.refl _ w6).alloc _)⟩
      · have n0 : wr.cell? ⟨nb, 6, none⟩ = some (.func (.func 101) #[] #[]) := hnb5.cell 6
        go_wp2_with fail
        refine (hN c wr h5 101 (by simp)).mono ?_
        rintro e w6 ⟨rfl, hm6, c6, hp6⟩
        clear n0 g0 g1 g2 g3 g4 gf0 gf1 gf2 gf3 gf4 gbl
        have h6 := h5.corner hm6 hp6 hgbp
        go_wp2
        go_roundg 1
        case measure => omega
        case rel => exact ⟨7, rfl, rfl, by omega, (hr5.trans hm6).alloc _, c6, h6.same ((Mods.refl _ w6).alloc _)⟩
      · have n0 : wr.cell? ⟨nb, 7, none⟩ = some (.func (.func 102) #[] #[]) := hnb5.cell 7
        go_wp2_with fail
        refine (hN c wr h5 102 (by simp)).mono ?_
        rintro e w6 ⟨rfl, hm6, c6, hp6⟩
        clear n0 g0 g1 g2 g3 g4 gf0 gf1 gf2 gf3 gf4 gbl
        have h6 := h5.corner hm6 hp6 hgbp
        go_wp2
        go_roundg 0
        case measure => omega
        case rel => exact ⟨8, rfl, rfl, by omega, (hr5.trans hm6).alloc _, c6, h6.same ((Mods.refl _ w6).alloc _)⟩
      · have hmW : Mods (fun k => k = bp) W wr := (hm4.mono (fun _ _ h => absurd h (fun x => x))).trans hr5
        have hown5 := ownsRow_keep hown0 hmW (by rw [HPS.out]; intro k hk; cases hk; exact hgbp)
        have hO5 : Opt wr { ({ p with depth := 0 } : PSt) with corner := c } 5 false := hO0.keep hmW hp51
        go_wp2_with fail
        refine (newPara_first bp g 0 cap { ({ p with depth := 0 } : PSt) with corner := c } T v l text 0 nl wr h5 rfl (by omega) (by omega) hs hO5 hown5).mono ?_
        rintro e w6 ⟨rfl, hpn⟩
        go_wp2
        try rw [Exit.noGoto_normal]
        go_end0
        refine ⟨rfl, c, ?_, ?_⟩
        · exact ((hm0.trans hmW).mono (fun _ _ h => Or.inl h)).trans hpn.mods
        · obtain ⟨g6, cap6, bb, tv, x1, x2, x3, x4, x5, x6, x7⟩ := hpn.ex
          exact ⟨g6, cap6, bb, tv, x1, x2, x3, x4, by have := hm0.size; have := hmW.size; omega, fun hlt => x6 (by have := hm0.size; have := hmW.size; omega), fun k hk => by have := x7 k hk; have := hm0.size; have := hmW.size; omega⟩
end Go.Proofs.YtdnlfdppjfjncaaGreatDoor

/- A tag that is none: `<scheme:`. -/
namespace Go.Proofs.YtdnlfdppjfjncaaGreatDoor
open Go Go.RowKit Go.Proofs

/-- An ASCII letter. -/
def Ltr (c : UInt8) : Prop := (65 ≤ c.toNat ∧ c.toNat ≤ 90) ∨ (97 ≤ c.toNat ∧ c.toNat ≤ 122)

theorem isLetter_yes (c : UInt8) (h : Ltr c) (w : World) : Calls Tryz.prog 152 #[.int .u8 c.toNat] w fun e w' => e = .returned (.bool true) ∧ w = w' := by
  rcases h with h | h
  · have w1 : (65 : Int) ≤ c.toNat := by omega
    have w2 : (c.toNat : Int) ≤ 90 := by omega
    clear h
    go_enter Tryz.func152, Tryz.ntmps152
    go_wp2_with fail
    go_ret
    exact ⟨rfl, rfl⟩
  · have w1 : (65 : Int) ≤ c.toNat := by omega
    have w2 : ¬ (c.toNat : Int) ≤ 90 := by omega
    have w3 : (97 : Int) ≤ c.toNat := by omega
    have w4 : (c.toNat : Int) ≤ 122 := by omega
    clear h
    go_enter Tryz.func152, Tryz.ntmps152
    go_wp2_with fail
    go_ret
    exact ⟨rfl, rfl⟩

theorem isLD_yes (c : UInt8) (h : Ltr c) (w : World) : Calls Tryz.prog 140 #[.int .u8 c.toNat] w fun e w' => e = .returned (.bool true) ∧ w = w' := by
  rcases h with h | h
  · have w1 : (65 : Int) ≤ c.toNat := by omega
    have w2 : (c.toNat : Int) ≤ 90 := by omega
    clear h
    go_enter Tryz.func140, Tryz.ntmps140
    go_wp2_with fail
    go_ret
    exact ⟨rfl, rfl⟩
  · have w1 : (65 : Int) ≤ c.toNat := by omega
    have w2 : ¬ (c.toNat : Int) ≤ 90 := by omega
    have w3 : (97 : Int) ≤ c.toNat := by omega
    have w4 : (c.toNat : Int) ≤ 122 := by omega
    clear h
    go_enter Tryz.func140, Tryz.ntmps140
    go_wp2_with fail
    go_ret
    exact ⟨rfl, rfl⟩
theorem isLD_colon (w : World) : Calls Tryz.prog 140 #[.int .u8 58] w fun e w' => e = .returned (.bool false) ∧ w = w' := by
  go_enter Tryz.func140, Tryz.ntmps140
  go_wp2_with fail
  go_ret
  exact ⟨rfl, rfl⟩

theorem isLDH_yes (c : UInt8) (h : Ltr c) (w : World) : Calls Tryz.prog 193 #[.int .u8 c.toNat] w fun e w' => e = .returned (.bool true) ∧ w = w' := by
  go_enter Tryz.func193, Tryz.ntmps193
  go_wp2_with fail
  refine (isLD_yes c h w).mono ?_
  rintro e w' ⟨rfl, rfl⟩
  go_wp2_with fail
  go_ret
  exact ⟨rfl, rfl⟩
theorem isLDH_colon (w : World) : Calls Tryz.prog 193 #[.int .u8 58] w fun e w' => e = .returned (.bool false) ∧ w = w' := by
  go_enter Tryz.func193, Tryz.ntmps193
  go_wp2_with fail
  refine (isLD_colon w).mono ?_
  rintro e w' ⟨rfl, rfl⟩
  go_wp2_with fail
  go_ret
  exact ⟨rfl, rfl⟩
theorem isScheme_yes (c : UInt8) (h : Ltr c) (w : World) : Calls Tryz.prog 158 #[.int .u8 c.toNat] w fun e w' => e = .returned (.bool true) ∧ w = w' := by
  go_enter Tryz.func158, Tryz.ntmps158
  go_wp2_with fail
  refine (isLD_yes c h w).mono ?_
  rintro e w' ⟨rfl, rfl⟩
  go_wp2_with fail
  go_ret
  exact ⟨rfl, rfl⟩
theorem isScheme_colon (w : World) : Calls Tryz.prog 158 #[.int .u8 58] w fun e w' => e = .returned (.bool false) ∧ w = w' := by
  go_enter Tryz.func158, Tryz.ntmps158
  go_wp2_with fail
  refine (isLD_colon w).mono ?_
  rintro e w' ⟨rfl, rfl⟩
  go_wp2_with fail
  go_ret
  exact ⟨rfl, rfl⟩

/-- A text that begins with `<`, letters up to place m, and a colon. -/
structure Sch (s : ByteArray) (m : Nat) : Prop where
  m1 : 1 < m
  lt : m < s.size
  small : s.size ≤ 1000000
  open_ : ∀ h : 0 < s.size, s[0] = 60
  ltr : ∀ j (h : j < s.size), 1 ≤ j → j < m → Ltr s[j]
  colon : ∀ h : m < s.size, s[m] = 58

set_option maxHeartbeats 4000000 in
theorem tagName_sch (s : ByteArray) (m : Nat) (w : World) (hS : Sch s m) :
    Calls Tryz.prog 194 #[.string s, .int .i64 1] w fun e w' => e = .returned (.tuple #[.string (s.extract 1 m), .int .i64 m, .bool true]) ∧ w = w' := by
  have h1 := hS.m1
  have h2 := hS.lt
  have h3 := hS.small
  have w1 : (1 : Int) < s.size := by omega
  have HS := Lib.hid hS
  have hl1 := hS.ltr 1 (by omega) (by omega) h1
  clear hS
  go_enter Tryz.func194, Tryz.ntmps194
  go_wp2_with fail
  refine (isLetter_yes _ hl1 w).mono ?_
  rintro e w' ⟨rfl, rfl⟩
  clear hl1
  go_wp2_with fail
  go_loopg [7] (m - 2) (fun k v wr => ∃ j : Nat, v = .int .i64 j ∧ k = m - j ∧ 2 ≤ j ∧ j ≤ m ∧ w = wr)
  case atStart => exact ⟨2, rfl, by omega, by omega, by omega, rfl⟩
  case round =>
    obtain ⟨j, rfl, hk, hj2, hj, rfl⟩ := hrel
    have HK := Lib.hid hk
    clear hk
    have v1 : (j : Int) < s.size := by omega
    have v2 : (0 : Int) ≤ j := by omega
    have w3 : IntKind.i64.wrap ((j : Int) + 1) = (j : Int) + 1 := IntWalk.i64_in _ (by omega)
    by_cases hlt : j < m
    · have hl := HS.out.ltr j (by omega) (by omega) hlt
      go_wp2_with fail
      refine (isLDH_yes _ hl w).mono ?_
      rintro e w' ⟨rfl, rfl⟩
      clear hl
      go_wp2_with fail
      go_roundg (m - (j + 1))
      case measure => have := HK.out; omega
      case rel => exact ⟨j + 1, by simp, rfl, by omega, by omega, rfl⟩
    · have hjm : j = m := by omega
      subst hjm
      have hc := HS.out.colon h2
      have v3 : (1 : Int) ≤ j := by omega
      have v4 : (j : Int) ≤ s.size := by omega
      go_wp2_with fail
      refine (isLDH_colon w).mono ?_
      rintro e w' ⟨rfl, rfl⟩
      clear hc
      go_wp2_with fail
      go_ret3
      exact ⟨by simp, rfl⟩

set_option maxHeartbeats 4000000 in
theorem closingTag_no (p : Value) (s : ByteArray) (m : Nat) (w : World) (hS : Sch s m) :
    Calls Tryz.prog 163 #[p, .string s, .int .i64 0] w fun e w' => e = .returned (.tuple #[.nilIface, .int .i64 0, .bool false]) ∧ w = w' := by
  have h1 := hS.m1
  have h2 := hS.lt
  have h3 := hS.small
  have w1 : ¬ ((s.size : Int) ≤ 2) := by omega
  have w2 : (0 : Int) < s.size := by omega
  have w3 : (1 : Int) < s.size := by omega
  have d0 : ((s[0].toNat : Int) != 60) = false := by rw [hS.open_ (by omega)]; rfl
  have hl := hS.ltr 1 (by omega) (by omega) h1
  have d1 : ((s[1].toNat : Int) != 47) = true := bne_iff_ne.2 (by rcases hl with h | h <;> omega)
  clear hS hl
  go_enter Tryz.func163, Tryz.ntmps163
  go_wp2_with fail
  go_ret3
  exact ⟨rfl, rfl⟩

/-- Is the text one of four tags? -/
def isPre (n : ByteArray) : Bool := n == ⟨#[112, 114, 101]⟩ || n == ⟨#[115, 99, 114, 105, 112, 116]⟩ || n == ⟨#[115, 116, 121, 108, 101]⟩ || n == ⟨#[116, 101, 120, 116, 97, 114, 101, 97]⟩

/-- The parse state, but for its corner. -/
def CornerAt (w : World) (bp : Nat) (q : PSt) : Prop := ∃ c, PsAt w bp { q with corner := c }

set_option maxHeartbeats 4000000 in
theorem openTag_no (bp : Nat) (q : PSt) (s : ByteArray) (m : Nat) (w : World) (hS : Sch s m) (hp : PsAt w bp q) :
    Calls Tryz.prog 162 #[.pointer (some ⟨bp, 0, none⟩), .string s, .int .i64 0] w fun e w' => e = .returned (.tuple #[.nilIface, .int .i64 0, .bool false]) ∧ Mods (fun k => k = bp) w w' ∧ CornerAt w' bp q := by
  have h1 := hS.m1
  have h2 := hS.lt
  have h3 := hS.small
  have w1 : ¬ ((s.size : Int) ≤ 0) := by omega
  have w1' : ¬ s = ByteArray.empty := by
    intro e
    rw [e] at h2
    exact Nat.not_lt_zero _ h2
  have w2 : (0 : Int) < s.size := by omega
  have d0 : ((s[0].toNat : Int) != 60) = false := by rw [hS.open_ (by omega)]; rfl
  have hc := hS.colon h2
  have f6 := hp.fr 6
  have k6 := hp.corner
  have hbl := hp.lt
  have hcase : ((s.extract 1 m).toList == [112, 114, 101]) = true ∨ (((s.extract 1 m).toList == [112, 114, 101]) = false ∧ ((s.extract 1 m).toList == [115, 99, 114, 105, 112, 116]) = true) ∨
      (((s.extract 1 m).toList == [112, 114, 101]) = false ∧ ((s.extract 1 m).toList == [115, 99, 114, 105, 112, 116]) = false ∧ ((s.extract 1 m).toList == [115, 116, 121, 108, 101]) = true) ∨
      (((s.extract 1 m).toList == [112, 114, 101]) = false ∧ ((s.extract 1 m).toList == [115, 99, 114, 105, 112, 116]) = false ∧ ((s.extract 1 m).toList == [115, 116, 121, 108, 101]) = false ∧ ((s.extract 1 m).toList == [116, 101, 120, 116, 97, 114, 101, 97]) = true) ∨
      (((s.extract 1 m).toList == [112, 114, 101]) = false ∧ ((s.extract 1 m).toList == [115, 99, 114, 105, 112, 116]) = false ∧ ((s.extract 1 m).toList == [115, 116, 121, 108, 101]) = false ∧ ((s.extract 1 m).toList == [116, 101, 120, 116, 97, 114, 101, 97]) = false) := by
    cases ((s.extract 1 m).toList == [112, 114, 101]) <;> cases ((s.extract 1 m).toList == [115, 99, 114, 105, 112, 116]) <;> cases ((s.extract 1 m).toList == [115, 116, 121, 108, 101]) <;> cases ((s.extract 1 m).toList == [116, 101, 120, 116, 97, 114, 101, 97]) <;> simp
  go_enter Tryz.func162, Tryz.ntmps162
  go_wp2_with fail
  refine (tagName_sch s m w hS).mono ?_
  rintro e w' ⟨rfl, rfl⟩
  clear hS d0
  generalize s.extract 1 m = n at *
  rcases hcase with q1 | ⟨q1, q2⟩ | ⟨q1, q2, q3⟩ | ⟨q1, q2, q3, q4⟩ | ⟨q1, q2, q3, q4⟩
  all_goals
    go_wp2_with fail
    go_loopg [10] 0 (fun _ v wr => v = .int .i64 m ∧ Mods (fun k => k = bp) w wr ∧ CornerAt wr bp q)
    case atStart =>
      first
        | exact ⟨rfl, Mods.refl _ _, q.corner, hp⟩
        | exact ⟨rfl, (Mods.refl (fun k => k = bp) w).setCell (p := ⟨bp, 6, none⟩) (fun _ => rfl) _, true, hp.set 6 _ { q with corner := true } rfl (by decide)⟩
    case round =>
      obtain ⟨rfl, hR⟩ := hrel
      have HR := Lib.hid hR
      clear hR f6 k6 hbl
      have v1 : (m : Int) < s.size := by omega
      have v2 : ¬ ((s.size : Int) ≤ m) := by omega
      have v3 : (0 : Int) ≤ m := by omega
      go_wp2_with fail
      go_ret3
      exact ⟨rfl, HR.out⟩
end Go.Proofs.YtdnlfdppjfjncaaGreatDoor

/- The document is built and closed; the stack is trimmed to nothing. -/
namespace Go.Proofs.YtdnlfdppjfjncaaGreatDoor
open Go Go.RowKit Go.Proofs


theorem m_build_root0 (k : Nat) (a : Option Addr) (w : World) : (method (k + 1) 98 (.pointer a) "pub-paratext/pub/rscmarkdown.build").run Tryz.prog w = .ok (247, .pointer a) w := by kernel_rfl
theorem m_pos0 (k : Nat) (a : Addr) (w : World) : (method (k + 1) 116 (.pointer (some a)) "pub-paratext/pub/rscmarkdown.pos").run Tryz.prog w = .ok (260, .pointer (some a)) w := m_pos k a w
theorem as_ps_is (X : Nat) (v : Value) (w : World) : (Instr.typeAssert (.iface 116 v) X 116 false).run Tryz.prog w = .ok v w := by kernel_rfl
theorem as_doc_yes (X : Nat) (v : Value) (w : World) : (Instr.typeAssert (.iface 48 v) X 48 false).run Tryz.prog w = .ok v w := by kernel_rfl
theorem as_List_no1 (X : Nat) (v : Value) (w : World) : (Instr.typeAssert (.iface 48 v) X 111 true).run Tryz.prog w = .ok (.tuple #[.pointer none, .bool false]) w := as_List_no _ _ _ _ (by decide)

set_option maxHeartbeats 2000000 in
theorem rootBuild_any (bp g n cap : Nat) (p : PSt) (l : List Value) (c : Value) (a : Option Addr) (ni ic : Nat) (ml : Option Nat) (s e : Int) (q : Value) (w : World) (hp : PsAt w bp p) (hst : p.stack = .slice (some ⟨g, 0, none⟩) (n + 1) cap) (hn : n ≤ 1000)
    (hown : w.ownsRow 0 121 4 (.slice (some ⟨g, 0, none⟩) (n + 1) cap) (n + 1) (l ++ [c, .slice a ni ic, .int .i64 s, .int .i64 e])) (hl : p.links = .map ml) :
    Calls Tryz.prog 247 #[q, .iface 116 (.pointer (some ⟨bp, 0, none⟩))] w fun e' w' => ∃ rk, e' = .returned (.iface 48 (.pointer (some ⟨rk, 0, none⟩))) ∧ w.heap.size ≤ rk ∧ Same w w' ∧
      Blk w' rk #[.int .i64 s, .int .i64 e, .slice a ni ic, .map ml] 339 := by
  have HP : ∀ W, Same w W → Calls Tryz.prog 260 #[.pointer (some ⟨bp, 0, none⟩)] W fun e' W' => e' = .returned (.agg #[.int .i64 s, .int .i64 e]) ∧ Same w W' ∧ W'.cell? ⟨bp, 2, none⟩ = some (.map ml) := fun W hW =>
    (pos_any bp g n cap p l c (.slice a ni ic) s e W (hp.same hW) hst hn (ownsRow_keep hown hW (fun _ _ x => x))).mono fun _ _ h => ⟨h.1, hW.trans h.2, (hp.same (hW.trans h.2)).links.trans (by rw [hl])⟩
  have HB : ∀ W, Same w W → Calls Tryz.prog 259 #[.pointer (some ⟨bp, 0, none⟩)] W fun e' W' => e' = .returned (.slice a ni ic) ∧ Same w W' ∧ W'.cell? ⟨bp, 2, none⟩ = some (.map ml) := fun W hW =>
    (blocks_any bp g n cap p l c (.slice a ni ic) s e W (hp.same hW) hst hn (ownsRow_keep hown hW (fun _ _ x => x))).mono fun _ _ h => by
      obtain ⟨h1, k, hk⟩ := h
      subst hk
      exact ⟨h1, hW.drewN k, (hp.same (hW.drewN k)).links.trans (by rw [hl])⟩
  have HL := hp.links
  rw [hl] at HL
  have M1 := m_pos0
  have M2 := m_blocks
  have M3 := as_ps_is
  go_enter Tryz.func247, Tryz.ntmps247
  go_wp2_with fail
  have hS0 : Same w w := Mods.refl _ w
  go_region_with (first
    | (go_at_call 260; refine (HP _ (by repeat (first | assumption | apply Mods.drew | apply Mods.drewN | apply Mods.alloc))).mono ?_; rintro e1 w1 ⟨rfl, hS1, HL1⟩)
    | (go_at_call 259; refine (HB _ (by repeat (first | assumption | apply Mods.drew | apply Mods.drewN | apply Mods.alloc))).mono ?_; rintro e2 w2 ⟨rfl, hS2, HL2⟩))
  all_goals
    go_wp2
    go_ret
    exact ⟨_, rfl, hS2.size, hS2.alloc _, Blk.newAt _ _ rfl⟩

end Go.Proofs.YtdnlfdppjfjncaaGreatDoor

/- The document is closed; the stack is trimmed to nothing. -/
namespace Go.Proofs.YtdnlfdppjfjncaaGreatDoor
open Go Go.RowKit Go.Proofs

/-- What closing the document leaves. -/
structure RootClosed (w w' : World) (bp g n cap : Nat) (p : PSt) (l : List Value) (a : Option Addr) (ni ic : Nat) (ml : Option Nat) (s e : Int) : Prop where
  mods : Mods (fun k => k = bp) w w'
  ex : ∃ rk, w.heap.size ≤ rk ∧ Blk w' rk #[.int .i64 s, .int .i64 e, .slice a ni ic, .map ml] 339 ∧
    PsAt w' bp { p with stack := .slice (some ⟨g, 0, none⟩) 0 cap, root := .pointer (some ⟨rk, 0, none⟩) }

set_option maxRecDepth 100000 in
set_option maxHeartbeats 4000000 in
theorem closeRoot (bp g cap : Nat) (p : PSt) (v a : Option Addr) (ni ic : Nat) (ml : Option Nat) (s e : Int) (w : World) (hp : PsAt w bp p) (hst : p.stack = .slice (some ⟨g, 0, none⟩) 1 cap)
    (hown : w.ownsRow 0 121 4 (.slice (some ⟨g, 0, none⟩) 1 cap) 1 [.iface 98 (.pointer v), .slice a ni ic, .int .i64 s, .int .i64 e]) (hl : p.links = .map ml) :
    Calls Tryz.prog 73 #[.pointer (some ⟨bp, 0, none⟩)] w fun e' w' => ∃ u, e' = .returned u ∧ RootClosed w w' bp g 0 cap p [] a ni ic ml s e := by
  obtain ⟨c0, c1, c2, c3, cf, cl⟩ := row_cells (n := 0) (l := []) hown
  have k4 := hp.stack
  rw [hst] at k4
  have hbl := hp.lt
  have hE := eql_builder_nil
  have hM := m_build_root0
  have w1 : IntKind.i64.wrap (0 : Int) = 0 := rfl
  clear cf
  go_enter Tryz.func73, Tryz.ntmps73
  go_wp2_with fail
  go_quiet (fail)
  go_wp2_with fail
  have hD : Same w (w.drewN nq) := (Mods.refl _ w).drewN nq
  refine (rootBuild_any bp g 0 cap p [] _ a ni ic ml s e _ (w.drewN nq) (hp.same hD) hst (by omega) (ownsRow_keep hown hD (fun _ _ x => x)) hl).mono ?_
  rintro e' wA ⟨rk, rfl, hrk, hmA, hR⟩
  have hpA := hp.same (hD.trans hmA)
  have hsz := hD.size
  have hownA := ownsRow_keep hown (hD.trans hmA) (fun _ _ x => x)
  have hcap : 1 ≤ cap := by
    rcases hownA.2 with ⟨h, _⟩ | ⟨_, _, _, h, _, _, hc, _⟩
    · cases h
    · cases h; exact hc
  clear c0 c1 c2 c3 k4 hbl hE hM
  have k4 := hpA.stack
  have f4 := hpA.fr 4
  have f1 := hpA.fr 1
  have k1 := hpA.root
  have hbl := hpA.lt
  have hL := as_List_no1
  have hDoc := as_doc_yes
  have w5 : (0 : Int) ≤ (cap : Int) := by omega
  rw [hst] at k4
  go_wp2_with fail
  go_region
  go_wp2_with fail
  go_ret
  have hne : rk ≠ bp := by
    obtain ⟨tail, htl⟩ := id hpA
    exact hR.ne_of_type htl (by decide)
  have hm1 : Mods (fun k => k = bp) w wA := (hD.trans hmA).mono (fun _ _ h => absurd h (fun x => x))
  have h1 := PsAt.drew (hpA.set 4 (.slice (some ⟨g, 0, none⟩) 0 cap) { p with stack := .slice (some ⟨g, 0, none⟩) 0 cap } rfl (by decide))
  refine ⟨_, rfl, ?_, rk, by omega, ?_, h1.set 1 _ _ rfl (by decide)⟩
  · exact (((hm1.setCell (p := ⟨bp, 4, none⟩) (fun _ => rfl) _).drew).setCell (p := ⟨bp, 1, none⟩) (fun _ => rfl) _)
  · exact Blk.set_other (a := ⟨bp, 1, none⟩) (Blk.drew (Blk.set_other (a := ⟨bp, 4, none⟩) hR (Ne.symm hne) _)) (Ne.symm hne) _

set_option maxHeartbeats 2000000 in
/-- trimStack closes as many blocks as stand above the depth; P k: k blocks are still to be closed. -/
theorem trimStack_gen (bp d : Nat) (P : Nat → World → Prop) (_hd : d ≤ 1000)
    (h0 : ∀ k w, P k w → k ≤ 1000 ∧ ∃ a cap, w.cell? ⟨bp, 4, none⟩ = some (.slice a (d + k) cap))
    (hc : ∀ k w, P (k + 1) w → Calls Tryz.prog 73 #[.pointer (some ⟨bp, 0, none⟩)] w fun e w' => ∃ u, e = .returned u ∧ P k w')
    (n : Nat) (w : World) (hP : P n w) :
    Calls Tryz.prog 65 #[.pointer (some ⟨bp, 0, none⟩), .int .i64 d] w fun e w' => e = .returned (.tuple #[]) ∧ P 0 w' := by
  obtain ⟨hn, a, cap, k4⟩ := h0 n w hP
  have w1 : ¬ ((d : Int) + n < d) := by omega
  go_enter Tryz.func65, Tryz.ntmps65
  go_wp2_with fail
  go_loopg [] n (fun k wr => P k wr)
  case atStart => exact hP
  case round =>
    clear k4 w1
    obtain ⟨hn', a', cap', k4'⟩ := h0 _ _ hrel
    cases gk with
    | zero =>
      have w2 : ¬ ((d : Int) < d) := by omega
      rw [Nat.add_zero] at k4'
      clear h0 hc
      go_wp2_with fail
      go_end0
      exact ⟨rfl, hrel⟩
    | succ k =>
      have w2 : (d : Int) < d + (k + 1) := by omega
      have hc' := hc k _ hrel
      clear h0 hc
      go_wp2_with fail
      refine hc'.mono ?_
      rintro e w2 ⟨u, rfl, hP2⟩
      go_wp2_with fail
      go_roundg k
      case measure => omega
      case rel => exact hP2
end Go.Proofs.YtdnlfdppjfjncaaGreatDoor
