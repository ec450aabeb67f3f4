/- Some texts of one proof, put into one file: Cont, Cont2, Cont3, Auto1, Cont4, Lines, Close4, Feed. -/
import Derived.Laws.StructEq
import Derived.Deep.RegionWith
import Derived.Deep.DeepCutAuto
import Derived.Lib.Join
import Derived.Test.YtdnlfdppjfjncaaGreatDoorSt2
import Derived.Test.YtdnlfdppjfjncaaGreatDoorSt4
/- The trials for blocks where a paragraph is open: a line that goes on with it. -/
namespace Go.Proofs.YtdnlfdppjfjncaaGreatDoor
open Go Go.RowKit Go.Proofs

/-- A paragraph is open, at place n of the stack. -/
structure InPara (w : World) (bp g n cap : Nat) (p : PSt) (bb : Nat) : Prop where
  at_ : PsAt w bp p
  stack : p.stack = .slice (some ⟨g, 0, none⟩) (n + 1) cap
  small : n ≤ 1000
  top : w.cell? ⟨g, n * 4, none⟩ = some (.iface 162 (.pointer (some ⟨bb, 0, none⟩)))

theorem InPara.same {w w' : World} {bp g n cap : Nat} {p : PSt} {bb : Nat} (h : InPara w bp g n cap p bb) (hm : Same w w') : InPara w' bp g n cap p bb :=
  ⟨h.at_.same hm, h.stack, h.small, (World.cell?_of_block (hm.block g (World.block_lt_of_cell? _ _ h.top) (fun x => x))).trans h.top⟩

set_option maxHeartbeats 2000000 in
/-- The paragraph is the next block: a line under it would make it a heading, this one does not. -/
theorem newSetext_cont (bp g n cap : Nat) (p : PSt) (bb : Nat) (text : ByteArray) (i : Nat) (nl : Int) (w : World) (h : InPara w bp g n cap p bb) (d : Nat) (hd : p.depth = d) (hdn : d + 1 = n) (hi : i ≤ text.size) (hT : Txt text)
    (c1 : ((at0 text (p3 text i)).toNat : Int) ≠ 45) (c2 : ((at0 text (p3 text i)).toNat : Int) ≠ 61) :
    Calls Tryz.prog 97 #[.pointer (some ⟨bp, 0, none⟩), LV i text nl] w fun e w' => e = .returned (.tuple #[LV i text nl, .bool false]) ∧ Same w w' := by
  subst hdn
  have hsm := h.small
  have hq := eql_para_para
  go_enter Tryz.func97, Tryz.ntmps97
  go_wp2_with fail
  generalize hW : ((((w.alloc _).alloc _).alloc _).alloc _ : World) = W
  have hm0 : Same w W := by subst hW; exact ((((Mods.refl _ w).alloc _).alloc _).alloc _).alloc _
  have hb : LineAt W w.heap.size i text nl := by subst hW; exact (((Blk.newAt _ _ rfl).alloc _).alloc _).alloc _
  have hr : LineAt W (w.heap.size + 1) 0 ⟨#[]⟩ 0 := by subst hW; exact ((Blk.newAt _ _ (by simp)).alloc _).alloc _
  have hl : LineAt W (w.heap.size + 1 + 1 + 1) i text nl := by subst hW; exact Blk.newAt _ _ (by simp)
  clear hW
  have h1 := h.same hm0
  refine (nextB_some bp g _ _ p W h1.at_ h1.stack d hd (by omega) (by omega) _ h1.top).mono ?_
  rintro e w1 ⟨rfl, n1, rfl⟩
  go_wp2_with fail
  refine (para_yes bp g (d + 1) cap p _ _ (h1.at_.drewN n1) h1.stack (by omega) h1.top).mono ?_
  rintro e w2 ⟨rfl, n2, rfl⟩
  have hm2 : Same w ((W.drewN n1).drewN n2) := (hm0.drewN n1).drewN n2
  have hb2 : LineAt ((W.drewN n1).drewN n2) w.heap.size i text nl := hb
  have hr2 : LineAt ((W.drewN n1).drewN n2) (w.heap.size + 1) 0 ⟨#[]⟩ 0 := hr
  have hl2 : LineAt ((W.drewN n1).drewN n2) (w.heap.size + 1 + 1 + 1) i text nl := hl
  generalize (W.drewN n1).drewN n2 = W2 at *
  clear hb hr hl h1 h hd hm0
  go_wp2_with fail
  refine (trimSetext_no _ _ text i nl W2 hi hT hl2 c1 c2).mono ?_
  rintro e w3 ⟨rfl, hm3⟩
  have hb3 := Same.blk hm3 hb2
  have hr3 := Same.blk hm3 hr2
  have hk := hm2.trans hm3
  obtain ⟨g0, g1, g2, g3, g4, gf0, gf1, gf2, gf3, gf4, gbl⟩ := LineAt.facts hb3
  obtain ⟨r0, r1, r2, r3, r4, rf0, rf1, rf2, rf3, rf4, rbl⟩ := LineAt.facts hr3
  clear hb2 hr2 hl2 hb3 hm2 hm3 c1 c2
  go_wp2
  exact bodyPost_ret (v := .tuple #[LV i text nl, .bool false]) (by simp [results, Tryz.results97, go_sem, r0, r1, r2, r3, r4]) rfl ⟨rfl, by
    exact hk.then ((put5 hr3 i text nl).1) (by intro b hb; omega)⟩

set_option maxHeartbeats 1000000 in
theorem newPre_cont (bp g n cap : Nat) (p : PSt) (bb : Nat) (text : ByteArray) (i : Nat) (nl : Int) (w : World) (h : InPara w bp g n cap p bb) :
    Calls Tryz.prog 102 #[.pointer (some ⟨bp, 0, none⟩), LV i text nl] w fun e w' => e = .returned (.tuple #[LV i text nl, .bool false]) ∧ Same w w' := by
  have hsm := h.small
  go_enter Tryz.func102, Tryz.ntmps102
  go_wp2_with fail
  generalize hW : (((w.alloc _).alloc _).alloc _ : World) = W
  have hm0 : Same w W := by subst hW; exact (((Mods.refl _ w).alloc _).alloc _).alloc _
  have hb : LineAt W w.heap.size i text nl := by subst hW; exact ((Blk.newAt _ _ rfl).alloc _).alloc _
  have hr : LineAt W (w.heap.size + 1) 0 ⟨#[]⟩ 0 := by subst hW; exact (Blk.newAt _ _ (by simp)).alloc _
  clear hW
  have h1 := h.same hm0
  refine (para_yes bp g n cap p _ W h1.at_ h1.stack (by omega) h1.top).mono ?_
  rintro e w1 ⟨rfl, n1, rfl⟩
  have hd1 : Same W (W.drewN n1) := (Mods.refl _ W).drewN n1
  have hb1 := Same.blk hd1 hb
  have hr1 := Same.blk hd1 hr
  have hk := hm0.trans hd1
  generalize W.drewN n1 = W1 at *
  obtain ⟨g0, g1, g2, g3, g4, gf0, gf1, gf2, gf3, gf4, gbl⟩ := LineAt.facts hb1
  obtain ⟨r0, r1, r2, r3, r4, rf0, rf1, rf2, rf3, rf4, rbl⟩ := LineAt.facts hr1
  clear hb hr hb1 hm0 hd1 h h1
  go_wp2_with fail
  exact bodyPost_ret (v := .tuple #[LV i text nl, .bool false]) (by simp [results, Tryz.results102, go_sem, r0, r1, r2, r3, r4]) rfl ⟨rfl, by
    exact hk.then ((put5 hr1 i text nl).1) (by intro b hb; omega)⟩
end Go.Proofs.YtdnlfdppjfjncaaGreatDoor

/- newPara where a paragraph is open: the line goes on with it. -/
namespace Go.Proofs.YtdnlfdppjfjncaaGreatDoor
open Go Go.RowKit Go.Proofs

/-- The last line of the open blocks from place d on. -/
def updE (L : List OB) (d m : Nat) (e : Int) : List OB := L.mapIdx (fun i o => if d ≤ i ∧ i < m then { o with e := e } else o)

theorem updE_len (L : List OB) (d m : Nat) (e : Int) : (updE L d m e).length = L.length := by simp [updE]
theorem updE_get (L : List OB) (d m : Nat) (e : Int) (i : Nat) : (updE L d m e)[i]? = L[i]?.map (fun o => if d ≤ i ∧ i < m then { o with e := e } else o) := by simp [updE, List.getElem?_mapIdx]
theorem updE_zero (L : List OB) (d : Nat) (e : Int) : updE L d d e = L := by
  apply List.ext_getElem?
  intro i
  rw [updE_get]
  have : ¬ (d ≤ i ∧ i < d) := by omega
  simp [this]

theorem obCells_set : ∀ (L : List OB) (k : Nat) (o : OB) (e : Int), L[k]? = some o → (obCells L).set (k * 4 + 3) (.int .i64 e) = obCells (L.set k { o with e := e })
  | [], k, o, e, h => by simp at h
  | x :: L, 0, o, e, h => by
    simp at h
    subst h
    simp [obCells, OB.cells]
  | x :: L, k + 1, o, e, h => by
    simp at h
    have ih := obCells_set L k o e h
    simp only [List.set_cons_succ, obCells, ← ih]
    rw [List.set_append_right _ _ (by simp [OB.len]; omega), OB.len]
    congr 2
    omega

theorem updE_step (L : List OB) (d m : Nat) (e : Int) (o : OB) (hd : d ≤ m) (h : (updE L d m e)[m]? = some o) : (updE L d m e).set m { o with e := e } = updE L d (m + 1) e := by
  apply List.ext_getElem?
  intro i
  rw [List.getElem?_set, updE_get, updE_get]
  by_cases hi : m = i
  · subst hi
    rw [updE_get] at h
    obtain ⟨o', ho', hoo⟩ := Option.map_eq_some_iff.1 h
    have hm : m < L.length := (List.getElem?_eq_some_iff.1 ho').1
    have h1 : ¬ (d ≤ m ∧ m < m) := by omega
    have h2 : d ≤ m ∧ m < m + 1 := by omega
    rw [if_neg h1] at hoo
    subst hoo
    rw [if_pos rfl, if_pos (by rw [updE_len]; exact hm), ho']
    simp [h2]
  · rw [if_neg hi]
    congr 1
    funext o
    have : (d ≤ i ∧ i < m) ↔ (d ≤ i ∧ i < m + 1) := by omega
    simp only [this]

/-- A paragraph of some lines is open, at place n of the stack L. -/
structure ParaL (w : World) (bp g n cap : Nat) (p : PSt) (L : List OB) (bb gt ct m : Nat) (xs : List ByteArray) : Prop where
  at_ : PsAt w bp p
  stack : p.stack = .slice (some ⟨g, 0, none⟩) (n + 1) cap
  small : n ≤ 1000
  len : L.length = n + 1
  row : w.ownsRow 0 121 4 (.slice (some ⟨g, 0, none⟩) (n + 1) cap) (n + 1) (obCells L)
  top : ∃ o, L[n]? = some o ∧ o.b = .iface 162 (.pointer (some ⟨bb, 0, none⟩))
  blk : Blk w bb #[.slice (some ⟨gt, 0, none⟩) m ct, .pointer none] 166
  txt : w.ownsRow 0 9 1 (.slice (some ⟨gt, 0, none⟩) m ct) m (xs.map .string)

theorem ParaL.cell {w : World} {bp g n cap : Nat} {p : PSt} {L : List OB} {bb gt ct m : Nat} {xs : List ByteArray} (h : ParaL w bp g n cap p L bb gt ct m xs) (k j : Nat) (o : OB) (hk : L[k]? = some o) (hj : j < 4) (u : Value) (hu : o.cells[j]? = some u) :
    w.cell? ⟨g, k * 4 + j, none⟩ = some u := by
  obtain ⟨_, _, he, _, _, hc⟩ := ownsRow_form h.row (by omega)
  cases he
  exact hc (k * 4 + j) u (by rw [obCells_get L k j o hk hj]; exact hu)

theorem ParaL.inPara {w : World} {bp g n cap : Nat} {p : PSt} {L : List OB} {bb gt ct m : Nat} {xs : List ByteArray} (h : ParaL w bp g n cap p L bb gt ct m xs) : InPara w bp g n cap p bb := by
  obtain ⟨o, h1, h2⟩ := h.top
  exact ⟨h.at_, h.stack, h.small, h.cell n 0 o h1 (by omega) _ (by rw [← h2]; rfl)⟩

theorem ParaL.same {w w' : World} {bp g n cap : Nat} {p : PSt} {L : List OB} {bb gt ct m : Nat} {xs : List ByteArray} (h : ParaL w bp g n cap p L bb gt ct m xs) (hm : Same w w') : ParaL w' bp g n cap p L bb gt ct m xs :=
  ⟨h.at_.same hm, h.stack, h.small, h.len, ownsRow_keep h.row hm (fun _ _ x => x), h.top, hm.blk h.blk, ownsRow_keep h.txt hm (fun _ _ x => x)⟩

/-- The last line of one open block is stored. -/
theorem ParaL.setE {w : World} {bp g n cap : Nat} {p : PSt} {L : List OB} {bb gt ct m : Nat} {xs : List ByteArray} (h : ParaL w bp g n cap p L bb gt ct m xs) (k : Nat) (o : OB) (e : Int) (hk : L[k]? = some o) :
    ParaL (w.setCell ⟨g, k * 4 + 3, none⟩ (.int .i64 e)) bp g n cap p (L.set k { o with e := e }) bb gt ct m xs ∧ Mods (fun b => b = g) w (w.setCell ⟨g, k * 4 + 3, none⟩ (.int .i64 e)) ∧
      w.frozen? ⟨g, k * 4 + 3, none⟩ = false ∧ g < w.heap.size := by
  have hkl : k < n + 1 := by have := (List.getElem?_eq_some_iff.1 hk).1; have := h.len; omega
  obtain ⟨_, _, he, ⟨cur, hcur⟩, hfr, _⟩ := ownsRow_form h.row (by omega)
  cases he
  obtain ⟨tail, htl⟩ := id h.at_
  have hgbp : g ≠ bp := hcur.ne_of_type htl (by decide)
  have hgb : g ≠ bb := hcur.ne_of_type h.blk (by decide)
  have hm : Mods (fun b => b = g) w (w.setCell ⟨g, k * 4 + 3, none⟩ (.int .i64 e)) := (Mods.refl (fun b => b = g) w).setCell (p := ⟨g, k * 4 + 3, none⟩) (fun _ => rfl) _
  refine ⟨⟨h.at_.keep hm hgbp.symm, h.stack, h.small, by rw [List.length_set]; exact h.len, ?_, ?_, h.blk.keep hm hgb.symm, ownsRow_keep h.txt hm (fun b hb x => ?_)⟩, hm, hcur.fr _, hcur.lt⟩
  · have := ownsRow_set h.row (k * 4 + 3) (.int .i64 e) (by omega)
    rwa [obCells_set L k o e hk] at this
  · obtain ⟨o2, h1, h2⟩ := h.top
    by_cases hkn : k = n
    · subst hkn
      rw [hk] at h1
      cases h1
      exact ⟨{ o with e := e }, by rw [List.getElem?_set, if_pos rfl, if_pos (by have := h.len; omega)], h2⟩
    · exact ⟨o2, by rw [List.getElem?_set, if_neg hkn]; exact h1, h2⟩
  · cases hb
    exact own_ne h.txt hcur (by decide) (by rw [← x]; rfl)
end Go.Proofs.YtdnlfdppjfjncaaGreatDoor

/- newPara where a paragraph is open: the line goes on with it: the walk. -/
namespace Go.Proofs.YtdnlfdppjfjncaaGreatDoor
open Go Go.RowKit Go.Proofs

theorem Blk.own_ne {w : World} {b T g n cap e size : Nat} {cs : Array Value} {xs : List Value} (hb : Blk w b cs T) (h : w.ownsRow 0 e size (.slice (some ⟨g, 0, none⟩) n cap) n xs) (hT : T ≠ e) : b ≠ g := by
  intro he
  exact Go.Proofs.YtdnlfdppjfjncaaGreatDoor.own_ne h hb hT (by rw [he]; rfl)

set_option maxRecDepth 100000 in
set_option maxHeartbeats 8000000 in
theorem newPara_cont (bp g n cap : Nat) (p : PSt) (L : List OB) (bb gt ct m : Nat) (xs : List ByteArray) (d : Nat) (text : ByteArray) (i : Nat) (nl : Int) (w : World) (h : ParaL w bp g n cap p L bb gt ct m xs) (hd : p.depth = d) (hdn : d ≤ n)
    (hi : i ≤ text.size) (hs : text.size ≤ 1000000) (hO : Opt w p 5 false) (hpp : p.parser ≠ g) (hm0 : 0 < m) (hm6 : m ≤ 100000) :
    Calls Tryz.prog 72 #[.pointer (some ⟨bp, 0, none⟩), LV i text nl] w fun e w' => e = .returned (.tuple #[zeroLV, .bool true]) ∧
      Mods (fun k => k = g ∨ k = bb ∨ k = gt) w w' ∧ ∃ gt' ct', ParaL w' bp g n cap p (updE L d (n + 1) p.lineno) bb gt' ct' (m + 1) (xs ++ [trimL (text.extract i text.size)]) ∧ (gt' = gt ∨ w.heap.size ≤ gt') := by
  have HD := Lib.hid hd
  have HPP := Lib.hid hpp
  have hsm := h.small
  clear hd hpp
  go_enter Tryz.func72, Tryz.ntmps72
  go_wp2_with fail
  generalize hW : ((w.alloc _).alloc _ : World) = W
  have hmA : Same w W := by subst hW; exact ((Mods.refl _ w).alloc _).alloc _
  have hb : LineAt W w.heap.size i text nl := by subst hW; exact (Blk.newAt _ _ rfl).alloc _
  have hr : LineAt W (w.heap.size + 1) 0 ⟨#[]⟩ 0 := by subst hW; exact Blk.newAt _ _ (by simp)
  clear hW
  have h1 := h.same hmA
  have hO1 := hO.keep hmA (fun x => x)
  refine (para_yes bp g n cap p _ W h1.at_ h1.stack (by omega) h1.inPara.top).mono ?_
  rintro e w1 ⟨rfl, n1, rfl⟩
  have k4 := h1.at_.stack
  rw [h1.stack] at k4
  have k5 := h1.at_.depth
  rw [HD.out] at k5
  have e1 : IntKind.i64.wrap ((n : Int) + 1 - 2) = (n : Int) - 1 := by rw [IntWalk.i64_in _ (by omega)]; omega
  go_wp2_with fail
  go_quiet (fail)
  generalize hX : ((W.drewN n1).drewN _ : World) = W2
  have hm1 : Same W W2 := by subst hX; exact ((Mods.refl _ W).drewN _).drewN _
  clear hX k4 k5 e1
  have h2 := h1.same hm1
  have hb2 := Same.blk hm1 hb
  have hr2 := Same.blk hm1 hr
  have hO2 := hO1.keep hm1 (fun x => x)
  have hk := hmA.trans hm1
  clear h1 hb hr hO1 hmA hm1
  go_wp2_with fail
  refine (trimSpaceString_any _ _ _ _ _ hs hi hb2).mono ?_
  rintro e w3 ⟨rfl, n3, rfl⟩
  have hm3 : Same W2 (W2.drewN n3) := (Mods.refl _ W2).drewN _
  generalize W2.drewN n3 = W3 at *
  have h3 := h2.same hm3
  have hr3 := Same.blk hm3 hr2
  have hO3 := hO2.keep hm3 (fun x => x)
  have hk3 := hk.trans hm3
  clear h2 hb2 hr2 hO2 hk hm3
  have o5 := hO3.cell
  have k0 := h3.at_.parser
  have hpl : p.parser < W3.heap.size := World.block_lt_of_cell? _ _ o5
  have hbpl := h3.at_.lt
  have b1 : W3.cell? ⟨bb, 1, none⟩ = some (.pointer none) := h3.blk.cell 1
  have bbl := h3.blk.lt
  go_wp2_with fail
  go_quiet (fail)
  generalize hX : (W3.drewN _ : World) = W4
  have hm4 : Same W3 W4 := by subst hX; exact (Mods.refl _ W3).drewN _
  clear hX o5 k0 hpl hbpl b1 bbl
  have h4 := h3.same hm4
  have hr4 := Same.blk hm4 hr3
  have hk4 := hk3.trans hm4
  clear h3 hr3 hO3 hk3 hm4
  have k5 := h4.at_.depth
  rw [HD.out] at k5
  go_wp2_with fail
  go_loopg [11] (n + 1 - d) (fun k v wr => ∃ j : Nat, v = .int .i64 j ∧ k = n + 1 - j ∧ d ≤ j ∧ j ≤ n + 1 ∧ Mods (fun b => b = g) W4 wr ∧ ParaL wr bp g n cap p (updE L d j p.lineno) bb gt ct m xs)
  case atStart => exact ⟨d, rfl, rfl, Nat.le_refl _, by omega, Mods.refl _ _, by rw [updE_zero]; exact h4⟩
  case round =>
    clear k5
    obtain ⟨j, rfl, hg, hj1, hj2, hmr, hr5⟩ := hrel
    have HG := Lib.hid hg
    clear hg
    have k4 := hr5.at_.stack
    rw [hr5.stack] at k4
    have w1 : IntKind.i64.wrap ((j : Int) + 1) = (j : Int) + 1 := IntWalk.i64_in _ (by omega)
    by_cases hlt : j < n + 1
    · have v1 : (j : Int) < (n : Int) + 1 := by omega
      have v2 : (0 : Int) ≤ j := by omega
      have hjl : j < (updE L d j p.lineno).length := by rw [updE_len]; have := hr5.len; rw [updE_len] at this; omega
      obtain ⟨o, ho⟩ : ∃ o, (updE L d j p.lineno)[j]? = some o := ⟨_, List.getElem?_eq_getElem hjl⟩
      obtain ⟨hset, hmset, hfz, hgl⟩ := hr5.setE j o p.lineno ho
      rw [updE_step L d j p.lineno o hj1 ho] at hset
      have hc3 : wr.cell? ⟨g, j * 4 + 2 + 1, none⟩ = some (.int .i64 o.e) := hr5.cell j 3 o ho (by omega) _ rfl
      have hfz3 : wr.frozen? ⟨g, j * 4 + 2 + 1, none⟩ = false := hfz
      have hset3 : ParaL (wr.setCell ⟨g, j * 4 + 2 + 1, none⟩ (.int .i64 p.lineno)) bp g n cap p (updE L d (j + 1) p.lineno) bb gt ct m xs := hset
      have hmset3 : Mods (fun b => b = g) wr (wr.setCell ⟨g, j * 4 + 2 + 1, none⟩ (.int .i64 p.lineno)) := hmset
      clear hset hmset hfz
      have k3 := hr5.at_.lineno
      have hbpl := hr5.at_.lt
      have HSET := Lib.hid hset3
      have HM := Lib.hid (hmr.trans hmset3)
      clear ho hset3 hmset3 hmr hr5 h4
      go_wp2_with fail
      go_region
      all_goals
        go_wp2_with fail
        go_roundg (n + 1 - (j + 1))
        case measure => have := HG.out; omega
        case rel => exact ⟨j + 1, rfl, rfl, by omega, by omega, HM.out.drew, HSET.out.same ((Mods.refl _ _).drew)⟩
    · have v1 : ¬ (j : Int) < (n : Int) + 1 := by omega
      have hjn : j = n + 1 := by omega
      subst hjn
      have b0 : wr.cell? ⟨bb, 0, none⟩ = some (.slice (some ⟨gt, 0, none⟩) m ct) := hr5.blk.cell 0
      have bf := hr5.blk.fr 0
      have bl := hr5.blk.lt
      have hxl : (xs.map Value.string).length = m := by have := hr5.txt.1; omega
      go_wp2_with (at_builtin; refine ap_str rfl (.tmp 168) (.tmp 170) rfl _ m (xs.map .string) rfl (hr5.txt.alloc _) wr.heap.size 1 (trimL (text.extract i text.size)) rfl ((Blk.newAt (w := wr) _ _ rfl).cell 0) (by omega) ?_)
      intro g6 cap6 w6 hown6 hgrow hloc
      have hne : w.heap.size + 1 ≠ g := hr4.own_ne h4.row (by decide)
      have hr5' := hr4.keep1 hmr hne
      have hm6' : Mods (fun k => k = gt) wr w6 := ((Mods.refl (fun k => k = gt) wr).alloc _).trans ((grown_mods hgrow).mono (fun k _ h => (Option.some.inj h).symm))
      have hB6 := (hr5.blk).keep1 hm6' (hr5.blk.own_ne hr5.txt (by decide))
      have hr6 := hr5'.keep1 hm6' (hr5'.own_ne hr5.txt (by decide))
      have hp6 := hr5.at_.keep hm6' (by
        obtain ⟨tail, htl⟩ := id hr5.at_
        exact htl.own_ne hr5.txt (by decide))
      have hown6s := ownsRow_keep hr5.row hm6' (fun b hb x => by
        cases hb
        obtain ⟨_, _, he, ⟨cur, hcur⟩, _, _⟩ := ownsRow_form hr5.row (by omega)
        cases he
        exact hcur.own_ne hr5.txt (by decide) x)
      have HLOC := Lib.hid hloc
      have HST := Lib.hid hr5.stack
      have HLEN := Lib.hid hr5.len
      have HTOP := Lib.hid hr5.top
      have HM := Lib.hid ((hk4.mono (S' := fun k => k = g ∨ k = bb ∨ k = gt) (fun _ _ h => absurd h (fun x => x))).then (hmr.mono (fun _ _ h => Or.inl h)) (fun _ _ h => h) |>.then (hm6'.mono (S' := fun k => k = g ∨ k = bb ∨ k = gt) (fun _ _ h => Or.inr (Or.inr h))) (fun _ _ h => h))
      have hz := hk4.size
      have hz2 := hmr.size
      clear b0 bf bl hgrow hloc hr5 hr5' hm6' hmr h4 hr4 hk4
      have b0 : w6.cell? ⟨bb, 0, none⟩ = some (.slice (some ⟨gt, 0, none⟩) m ct) := hB6.cell 0
      have bf := hB6.fr 0
      have bl := hB6.lt
      obtain ⟨r0, r1, r2, r3, r4, rf0, rf1, rf2, rf3, rf4, rbl⟩ := LineAt.facts hr6
      have hne : bb ≠ w.heap.size + 1 := hB6.ne_of_type hr6 (by decide)
      go_wp2
      have hL7 : LineAt (w6.setCell ⟨bb, 0, none⟩ (.slice (some ⟨g6, 0, none⟩) (m + 1) cap6)) (w.heap.size + 1) 0 ⟨#[]⟩ 0 := Blk.set_other hr6 (a := ⟨bb, 0, none⟩) hne _
      have hB7 := hB6.set_same 0 (.slice (some ⟨g6, 0, none⟩) (m + 1) cap6)
      have hm7 : Mods (fun k => k = bb ∨ k = w.heap.size + 1) w6 (P5 (w6.setCell ⟨bb, 0, none⟩ (.slice (some ⟨g6, 0, none⟩) (m + 1) cap6)) (w.heap.size + 1) 0 ⟨#[]⟩ 0) :=
        ((Mods.refl (fun k => k = bb ∨ k = w.heap.size + 1) w6).setCell (p := ⟨bb, 0, none⟩) (fun _ => Or.inl rfl) _).trans ((put5 hL7 0 ⟨#[]⟩ 0).1.mono (fun _ _ h => Or.inr h))
      obtain ⟨tail, htl⟩ := id hp6
      refine bodyPost_ret (v := .tuple #[zeroLV, .bool true]) (by simp [results, Tryz.results72, go_sem, r0, r1, r2, r3, r4]) rfl ⟨rfl, ?_, g6, cap6, ⟨hp6.keep hm7 ?_, HST.out, hsm, HLEN.out, ?_, HTOP.out, ?_, ?_⟩, ?_⟩
      · exact HM.out.then hm7 (fun b hb h => by
          rcases h with h | h
          · exact Or.inr (Or.inl h)
          · omega)
      · intro h
        rcases h with h | h
        · exact htl.ne_of_type hB6 (by decide) h
        · exact htl.ne_of_type hr6 (by decide) h
      · exact ownsRow_keep hown6s hm7 (fun b hb x => by
          cases hb
          rcases x with x | x
          · exact hB6.own_ne hown6s (by decide) x.symm
          · exact hr6.own_ne hown6s (by decide) x.symm)
      · exact hB7.keep1 (put5 hL7 0 ⟨#[]⟩ 0).1 hne
      · rw [List.map_append]
        exact ownsRow_keep hown6 hm7 (fun b hb x => by
          cases hb
          rcases x with x | x
          · exact hB6.own_ne hown6 (by decide) x.symm
          · exact hr6.own_ne hown6 (by decide) x.symm)
      · rcases HLOC.out with h | h
        · exact Or.inl (Option.some.inj h).symm
        · right; omega
end Go.Proofs.YtdnlfdppjfjncaaGreatDoor

/- addLine: the first line of a paragraph, where a trial may set the state's corner. -/
namespace Go.Proofs.YtdnlfdppjfjncaaGreatDoor
open Go Go.RowKit Go.Proofs

/-- None of the eight functions begins a block with this line; one may set the corner. -/
def TriesNoC (bp g cap : Nat) (p : PSt) (T : Nat) (v : Value) (text : ByteArray) (nl : Int) : Prop :=
  ∀ c W, NoPara W bp g 0 cap { p with corner := c } T v → ∀ f ∈ [95, 96, 97, 98, 99, 100, 101, 102],
    Calls Tryz.prog f #[.pointer (some ⟨bp, 0, none⟩), LV 0 text nl] W fun e w' => e = .returned (.tuple #[LV 0 text nl, .bool false]) ∧ Mods (fun k => k = bp) W w' ∧ ∃ c', PsAt w' bp { p with corner := c' }

theorem NoPara.corner {w w' : World} {bp g cap : Nat} {p : PSt} {T : Nat} {v : Value} {c c' : Bool} (h : NoPara w bp g 0 cap { p with corner := c } T v) (hm : Mods (fun k => k = bp) w w') (hp : PsAt w' bp { p with corner := c' }) (hg : g ≠ bp) :
    NoPara w' bp g 0 cap { p with corner := c' } T v :=
  ⟨hp, h.stack, h.small, (World.cell?_of_block (hm.block g (World.block_lt_of_cell? _ _ h.top) hg)).trans h.top, h.other⟩

set_option maxRecDepth 100000 in
set_option maxHeartbeats 4000000 in
theorem addLine_firstC (bp g cap : Nat) (p : PSt) (T : Nat) (v : Value) (l : List Value) (text : ByteArray) (nl : Int) (w : World) (h : NoPara w bp g 0 cap p T v)
    (hs : text.size ≤ 1000000) (hbl : blankAt text 0 = false) (hO : Opt w p 5 false) (hown : w.ownsRow 0 121 4 p.stack 1 l) (hp51 : p.parser ≠ bp)
    (hN : TriesNoC bp g cap { p with depth := 0 } T v text nl) :
    Calls Tryz.prog 64 #[.pointer (some ⟨bp, 0, none⟩), LV 0 text nl] w fun e w' => e = .returned (.tuple #[]) ∧ ∃ c, ParaNew w w' bp { p with depth := 0, corner := c } 0 l (trimL (text.extract 0 text.size)) := by
  have k5 := h.at_.depth
  have f5 := h.at_.fr 5
  have hbpl := h.at_.lt
  go_enter Tryz.func64, Tryz.ntmps64
  go_wp2
  go_step3
  go_wp2
  generalize hW : (World.alloc _ _ : World) = W
  have hp0 : PsAt W bp { p with depth := 0 } := by subst hW; exact PsAt.alloc (h.at_.set 5 _ { p with depth := 0 } rfl (by decide)) _
  have hm0 : Mods (fun k => k = bp) w W := by subst hW; exact ((Mods.refl (fun k => k = bp) w).setCell (p := ⟨bp, 5, none⟩) (fun _ => rfl) _).alloc _
  have hbk : LineAt W w.heap.size 0 text nl := by subst hW; exact Blk.newAt _ _ (by simp)
  clear hW
  obtain ⟨tail, htl⟩ := id h.at_
  obtain ⟨_, _, he, ⟨cur, hcur⟩, _, _⟩ := ownsRow_form (h.stack ▸ hown) (by omega)
  cases he
  have hgbp : g ≠ bp := hcur.ne_of_type htl (by decide)
  have h0 : NoPara W bp g 0 cap { p with depth := 0 } T v := ⟨hp0, h.stack, h.small, (World.cell?_of_block (hm0.block g (World.block_lt_of_cell? _ _ h.top) hgbp)).trans h.top, h.other⟩
  have hown0 : W.ownsRow 0 121 4 p.stack 1 l := ownsRow_keep hown hm0 (by rw [h.stack]; intro k hk; cases hk; exact hgbp)
  have hO0 : Opt W p 5 false := hO.keep hm0 hp51
  have hpst := h.stack
  have k4 : W.cell? ⟨bp, 4, none⟩ = some (.slice (some ⟨g, 0, none⟩) 1 cap) := by have := hp0.stack; rw [h.stack] at this; exact this
  have k5' := hp0.depth
  have HPS := Lib.hid hpst
  clear k5 f5 hbpl hcur htl hpst
  go_loopg [] 0 (fun g wr => W = wr)
  case atStart => rfl
  case round =>
    subst hrel
    go_wp2_with fail
    go_quiet (fail)
    generalize hX : (W.drewN _ : World) = W1
    have hm1 : Same W W1 := by subst hX; exact (Mods.refl _ W).drewN _
    clear hX k4 k5'
    have hbk1 := Same.blk hm1 hbk
    go_wp2_with fail
    refine (isBlank_any _ _ _ _ _ hs (by omega) hbk1).mono ?_
    rintro e w2 ⟨rfl, n2, rfl⟩
    rw [show (trimL (text.extract 0 text.size)).toList.isEmpty = false from hbl]
    have hm2 : Same W (W1.drewN n2) := hm1.drewN _
    generalize W1.drewN n2 = W2 at *
    have hbk2 := Same.blk hm2 hbk
    clear hm1 hbk1 hbl
    go_wp2_with fail
    go_step3
    go_wp2_with fail
    refine (news_any _).mono ?_
    rintro e w3 ⟨nb, rfl, hm3, hnb⟩
    have hm4 := hm2.trans hm3
    have hbk3 := Same.blk hm3 hbk2
    have h3 : NoPara w3 bp g 0 cap { ({ p with depth := 0 } : PSt) with corner := p.corner } T v := h0.same hm4
    obtain ⟨tl3, htl3⟩ := id h3.at_
    have hbkn : w.heap.size ≠ bp := hbk3.ne_of_type htl3 (by decide)
    have hnbn : nb ≠ bp := hnb.ne_of_type htl3 (by decide)
    clear hm2 hbk2 htl3
    go_wp2
    go_loopg [88] 8 (fun gg j wr => ∃ k : Nat, gg = 8 - k ∧ j = .int .i64 k ∧ k ≤ 8 ∧ Mods (fun k => k = bp) w3 wr ∧ ∃ c, NoPara wr bp g 0 cap { ({ p with depth := 0 } : PSt) with corner := c } T v)
    case atStart => exact ⟨0, rfl, rfl, by omega, Mods.refl _ _, _, h3⟩
    case round =>
      clear h3
      obtain ⟨k, hg, rfl, hk8, hr5, c, h5⟩ := hrel
      have hbk5 := hbk3.keep1 hr5 hbkn
      have hnb5 := hnb.keep1 hr5 hnbn
      obtain ⟨g0, g1, g2, g3, g4, gf0, gf1, gf2, gf3, gf4, gbl⟩ := LineAt.facts hbk5
      have hcases : k = 0 ∨ k = 1 ∨ k = 2 ∨ k = 3 ∨ k = 4 ∨ k = 5 ∨ k = 6 ∨ k = 7 ∨ k = 8 := by omega
      rcases hcases with rfl | rfl | rfl | rfl | rfl | rfl | rfl | rfl | rfl
      · have n0 : wr.cell? ⟨nb, 0, none⟩ = some (.func (.func 95) #[] #[]) := hnb5.cell 0
        go_wp2_with fail
        refine (hN c wr h5 95 (by simp)).mono ?_
        rintro e w6 ⟨rfl, hm6, c6, hp6⟩
        clear n0 g0 g1 g2 g3 g4 gf0 gf1 gf2 gf3 gf4 gbl
        have h6 := h5.corner hm6 hp6 hgbp
        go_wp2
        go_roundg 7
        case measure => omega
        case rel => exact ⟨1, rfl, rfl, by omega, (hr5.trans hm6).alloc _, c6, h6.same ((Mods.refl _ w6).alloc _)⟩
      · have n0 : wr.cell? ⟨nb, 1, none⟩ = some (.func (.func 96) #[] #[]) := hnb5.cell 1
        go_wp2_with fail
        refine (hN c wr h5 96 (by simp)).mono ?_
        rintro e w6 ⟨rfl, hm6, c6, hp6⟩
        clear n0 g0 g1 g2 g3 g4 gf0 gf1 gf2 gf3 gf4 gbl
        have h6 := h5.corner hm6 hp6 hgbp
        go_wp2
        go_roundg 6
        case measure => omega
        case rel => exact ⟨2, rfl, rfl, by omega, (hr5.trans hm6).alloc _, c6, h6.same ((Mods.refl _ w6).alloc _)⟩
      · have n0 : wr.cell? ⟨nb, 2, none⟩ = some (.func (.func 97) #[] #[]) := hnb5.cell 2
        go_wp2_with fail
        refine (hN c wr h5 97 (by simp)).mono ?_
        rintro e w6 ⟨rfl, hm6, c6, hp6⟩
        clear n0 g0 g1 g2 g3 g4 gf0 gf1 gf2 gf3 gf4 gbl
        have h6 := h5.corner hm6 hp6 hgbp
        go_wp2
        go_roundg 5
        case measure => omega
        case rel => exact ⟨3, rfl, rfl, by omega, (hr5.trans hm6).alloc _, c6, h6.same ((Mods.refl _ w6).alloc _)⟩
      · have n0 : wr.cell? ⟨nb, 3, none⟩ = some (.func (.func 98) #[] #[]) := hnb5.cell 3
        go_wp2_with fail
        refine (hN c wr h5 98 (by simp)).mono ?_
        rintro e w6 ⟨rfl, hm6, c6, hp6⟩
        clear n0 g0 g1 g2 g3 g4 gf0 gf1 gf2 gf3 gf4 gbl
        have h6 := h5.corner hm6 hp6 hgbp
        go_wp2
        go_roundg 4
        case measure => omega
        case rel => exact ⟨4, rfl, rfl, by omega, (hr5.trans hm6).alloc _, c6, h6.same ((Mods.refl _ w6).alloc _)⟩
      · have n0 : wr.cell? ⟨nb, 4, none⟩ = some (.func (.func 99) #[] #[]) := hnb5.cell 4
        go_wp2_with fail
        refine (hN c wr h5 99 (by simp)).mono ?_
        rintro e w6 ⟨rfl, hm6, c6, hp6⟩
        clear n0 g0 g1 g2 g3 g4 gf0 gf1 gf2 gf3 gf4 gbl
        have h6 := h5.corner hm6 hp6 hgbp
        go_wp2
        go_roundg 3
        case measure => omega
        case rel => exact ⟨5, rfl, rfl, by omega, (hr5.trans hm6).alloc _, c6, h6.same ((Mods.refl _ w6).alloc _)⟩
      · have n0 : wr.cell? ⟨nb, 5, none⟩ = some (.func (.func 100) #[] #[]) := hnb5.cell 5
        go_wp2_with fail
        refine (hN c wr h5 100 (by simp)).mono ?_
        rintro e w6 ⟨rfl, hm6, c6, hp6⟩
        clear n0 g0 g1 g2 g3 g4 gf0 gf1 gf2 gf3 gf4 gbl
        have h6 := h5.corner hm6 hp6 hgbp
        go_wp2
        go_roundg 2
        case measure => omega
        case rel => exact ⟨6, rfl, rfl, by omega, (hr5.trans hm6).alloc _, c6, h6.same ((Mods.refl _ w6).alloc _)⟩
      · have n0 : wr.cell? ⟨nb, 6, none⟩ = some (.func (.func 101) #[] #[]) := hnb5.cell 6
        go_wp2_with fail
        refine (hN c wr h5 101 (by simp)).mono ?_
        rintro e w6 ⟨rfl, hm6, c6, hp6⟩
        clear n0 g0 g1 g2 g3 g4 gf0 gf1 gf2 gf3 gf4 gbl
        have h6 := h5.corner hm6 hp6 hgbp
        go_wp2
        go_roundg 1
        case measure => omega
        case rel => exact ⟨7, rfl, rfl, by omega, (hr5.trans hm6).alloc _, c6, h6.same ((Mods.refl _ w6).alloc _)⟩
      · have n0 : wr.cell? ⟨nb, 7, none⟩ = some (.func (.func 102) #[] #[]) := hnb5.cell 7
        go_wp2_with fail
        refine (hN c wr h5 102 (by simp)).mono ?_
        rintro e w6 ⟨rfl, hm6, c6, hp6⟩
        clear n0 g0 g1 g2 g3 g4 gf0 gf1 gf2 gf3 gf4 gbl
        have h6 := h5.corner hm6 hp6 hgbp
        go_wp2
        go_roundg 0
        case measure => omega
        case rel => exact ⟨8, rfl, rfl, by omega, (hr5.trans hm6).alloc _, c6, h6.same ((Mods.refl _ w6).alloc _)⟩
      · have hmW : Mods (fun k => k = bp) W wr := (hm4.mono (fun _ _ h => absurd h (fun x => x))).trans hr5
        have hown5 := ownsRow_keep hown0 hmW (by rw [HPS.out]; intro k hk; cases hk; exact hgbp)
        have hO5 : Opt wr { ({ p with depth := 0 } : PSt) with corner := c } 5 false := hO0.keep hmW hp51
        go_wp2_with fail
        refine (newPara_first bp g 0 cap { ({ p with depth := 0 } : PSt) with corner := c } T v l text 0 nl wr h5 rfl (by omega) (by omega) hs hO5 hown5).mono ?_
        rintro e w6 ⟨rfl, hpn⟩
        go_wp2
        try rw [Exit.noGoto_normal]
        go_end0
        refine ⟨rfl, c, ?_, ?_⟩
        · exact ((hm0.trans hmW).mono (fun _ _ h => Or.inl h)).trans hpn.mods
        · obtain ⟨g6, cap6, bb, tv, x1, x2, x3, x4, x5, x6, x7⟩ := hpn.ex
          exact ⟨g6, cap6, bb, tv, x1, x2, x3, x4, by have := hm0.size; have := hmW.size; omega, fun hlt => x6 (by have := hm0.size; have := hmW.size; omega), fun k hk => by have := x7 k hk; have := hm0.size; have := hmW.size; omega⟩
end Go.Proofs.YtdnlfdppjfjncaaGreatDoor

/- addLine where a paragraph is open below the document: the line goes on with it. -/
namespace Go.Proofs.YtdnlfdppjfjncaaGreatDoor
open Go Go.RowKit Go.Proofs

theorem line_neq_same (i : Nat) (text : ByteArray) (nl : Int) (w : World) : (binOp .neq 104 (LV i text nl) (LV i text nl)).run Tryz.prog w = .ok (.bool false) w := by
  have hs : Tryz.prog.stoodInHeld 104 = false := by kernel_rfl
  have key : ∀ fs, Tryz.prog.underlying 104 = some (.struct fs) → Tryz.prog.fieldsOf 104 = fs := fun fs h => by simp [Program.fieldsOf, h]
  have hf := key _ Tryz.underlying104
  rw [run_neq_struct, run_equalIn_struct w 9999 104 _ _ (by rw [hf]; exact Tryz.underlying104) hs, hf]
  simp [Op.eqFields, part, go_sem]

theorem m_extend_para (k : Nat) (a : Addr) (w : World) : (method (k + 1) 162 (.pointer (some a)) "pub-paratext/pub/rscmarkdown.extend").run Tryz.prog w = .ok (289, .pointer (some a)) w := by kernel_rfl

/-- A paragraph takes no line by itself. -/
theorem para_extend (v q : Value) (i : Nat) (text : ByteArray) (nl : Int) (w : World) :
    Calls Tryz.prog 289 #[v, q, LV i text nl] w fun e w' => e = .returned (.tuple #[LV i text nl, .bool false]) ∧ Same w w' := by
  go_enter Tryz.func289, Tryz.ntmps289
  go_wp2_with fail
  exact bodyPost_ret (v := .tuple #[LV i text nl, .bool false]) (by simp [results, Tryz.results289, go_sem]) rfl ⟨rfl, ((Mods.refl _ w).alloc _).alloc _⟩

theorem ParaL.depth0 {w : World} {bp g n cap : Nat} {p : PSt} {L : List OB} {bb gt ct m : Nat} {xs : List ByteArray} (h : ParaL w bp g n cap p L bb gt ct m xs) :
    ParaL (w.setCell ⟨bp, 5, none⟩ (.int .i64 0)) bp g n cap { p with depth := 0 } L bb gt ct m xs ∧ Mods (fun k => k = bp) w (w.setCell ⟨bp, 5, none⟩ (.int .i64 0)) := by
  have hm : Mods (fun k => k = bp) w (w.setCell ⟨bp, 5, none⟩ (.int .i64 0)) := (Mods.refl (fun k => k = bp) w).setCell (p := ⟨bp, 5, none⟩) (fun _ => rfl) _
  obtain ⟨tail, htl⟩ := id h.at_
  exact ⟨⟨h.at_.set 5 _ { p with depth := 0 } rfl (by decide), h.stack, h.small, h.len, ownsRow_keep h.row hm (fun b hb x => by cases hb; exact htl.own_ne h.row (by decide) x.symm), h.top,
    h.blk.keep1 hm (h.blk.ne_of_type htl (by decide)), ownsRow_keep h.txt hm (fun b hb x => by cases hb; exact htl.own_ne h.txt (by decide) x.symm)⟩, hm⟩

theorem ParaL.keep {S : Nat → Prop} {w w' : World} {bp g n cap : Nat} {p : PSt} {L : List OB} {bb gt ct m : Nat} {xs : List ByteArray} (h : ParaL w bp g n cap p L bb gt ct m xs) (hm : Mods S w w') (h1 : ¬ S bp) (h2 : ¬ S g) (h3 : ¬ S bb) (h4 : ¬ S gt) :
    ParaL w' bp g n cap p L bb gt ct m xs :=
  ⟨h.at_.keep hm h1, h.stack, h.small, h.len, ownsRow_keep h.row hm (fun b hb x => by cases hb; exact h2 x), h.top, h.blk.keep hm h3, ownsRow_keep h.txt hm (fun b hb x => by cases hb; exact h4 x)⟩

theorem ParaL.lts {w : World} {bp g n cap : Nat} {p : PSt} {L : List OB} {bb gt ct m : Nat} {xs : List ByteArray} (h : ParaL w bp g n cap p L bb gt ct m xs) (hm : 0 < m) : bp < w.heap.size ∧ g < w.heap.size ∧ bb < w.heap.size ∧ gt < w.heap.size := by
  obtain ⟨_, _, he, ⟨cur, hcur⟩, _, _⟩ := ownsRow_form h.row (by omega)
  cases he
  obtain ⟨_, _, he, ⟨cur2, hcur2⟩, _, _⟩ := ownsRow_form h.txt hm
  cases he
  exact ⟨h.at_.lt, hcur.lt, h.blk.lt, hcur2.lt⟩

set_option maxRecDepth 100000 in
set_option maxHeartbeats 8000000 in
theorem addLine_cont (bp g cap : Nat) (p : PSt) (L : List OB) (bb gt ct m : Nat) (xs : List ByteArray) (text : ByteArray) (nl : Int) (w : World) (h : ParaL w bp g 1 cap p L bb gt ct m xs)
    (hs : text.size ≤ 1000000) (hbl : blankAt text 0 = false) (hO : Opt w p 5 false) (hp1 : p.parser ≠ bp) (hp2 : p.parser ≠ g) (hm0 : 0 < m) (hm6 : m ≤ 100000)
    (hN : ∀ W, ParaL W bp g 1 cap { p with depth := 0 } L bb gt ct m xs → TriesNo W bp 0 text nl) :
    Calls Tryz.prog 64 #[.pointer (some ⟨bp, 0, none⟩), LV 0 text nl] w fun e w' => e = .returned (.tuple #[]) ∧
      Mods (fun k => k = bp ∨ k = g ∨ k = bb ∨ k = gt) w w' ∧ ∃ gt' ct', ParaL w' bp g 1 cap { p with depth := 0 } (updE L 0 2 p.lineno) bb gt' ct' (m + 1) (xs ++ [trimL (text.extract 0 text.size)]) ∧ (gt' = gt ∨ w.heap.size ≤ gt') := by
  have k5 := h.at_.depth
  have f5 := h.at_.fr 5
  have hbpl := h.at_.lt
  go_enter Tryz.func64, Tryz.ntmps64
  go_wp2
  go_step3
  go_wp2
  generalize hW : (World.alloc _ _ : World) = W
  have hd0 := h.depth0
  have hmW : Mods (fun k => k = bp) w W := by subst hW; exact hd0.2.alloc _
  have h0 : ParaL W bp g 1 cap { p with depth := 0 } L bb gt ct m xs := by subst hW; exact hd0.1.same ((Mods.refl _ _).alloc _)
  have hbk : LineAt W w.heap.size 0 text nl := by subst hW; exact Blk.newAt _ _ (by simp)
  clear hW hd0
  have hO0 : Opt W p 5 false := hO.keep hmW hp1
  clear k5 f5 hbpl
  have hx := m_extend_para
  have hq := line_neq_same
  go_loopg [] 0 (fun g wr => W = wr)
  case atStart => rfl
  case round =>
    subst hrel
    have k4 := h0.at_.stack
    rw [h0.stack] at k4
    have k5 : W.cell? ⟨bp, 5, none⟩ = some (.int .i64 0) := h0.at_.depth
    have kt : W.cell? ⟨g, 4, none⟩ = some (.iface 162 (.pointer (some ⟨bb, 0, none⟩))) := h0.inPara.top
    have hgl : g < W.heap.size := World.block_lt_of_cell? _ _ kt
    go_wp2_with fail
    go_quiet (fail)
    generalize hX : (W.drewN _ : World) = W1
    have hm1 : Same W W1 := by subst hX; exact (Mods.refl _ W).drewN _
    clear hX k4 k5 kt
    have h1 := h0.same hm1
    have hbk1 := Same.blk hm1 hbk
    obtain ⟨g0, g1, g2, g3, g4, gf0, gf1, gf2, gf3, gf4, gbl⟩ := LineAt.facts hbk1
    go_wp2_with fail
    clear g0 g1 g2 g3 g4 gf0 gf1 gf2 gf3 gf4 gbl hgl
    generalize hX : (W1.alloc _ : World) = X
    have hm2 : Same W1 X := by subst hX; exact (Mods.refl _ W1).alloc _
    have hold : LineAt X W1.heap.size 0 text nl := by subst hX; exact Blk.newAt _ _ rfl
    clear hX
    have h2 := h1.same hm2
    have hbk2 := Same.blk hm2 hbk1
    have hkX : Same W X := hm1.trans hm2
    clear h1 hbk1
    have hS0 : Same X X := Mods.refl _ _
    have HE : ∀ V, Same X V → Calls Tryz.prog 289 #[.pointer (some ⟨bb, 0, none⟩), .pointer (some ⟨bp, 0, none⟩), LV 0 text nl] V fun e V' => e = .returned (.tuple #[LV 0 text nl, .bool false]) ∧ Same X V' ∧
        (V'.cell? ⟨w.heap.size, 0, none⟩ = some (.int .i64 0) ∧ V'.cell? ⟨w.heap.size, 1, none⟩ = some (.int .i64 0) ∧ V'.cell? ⟨w.heap.size, 2, none⟩ = some (.int .i64 0) ∧ V'.cell? ⟨w.heap.size, 3, none⟩ = some (.string text) ∧ V'.cell? ⟨w.heap.size, 4, none⟩ = some (.int .u8 nl) ∧
          V'.frozen? ⟨w.heap.size, 0, none⟩ = false ∧ V'.frozen? ⟨w.heap.size, 1, none⟩ = false ∧ V'.frozen? ⟨w.heap.size, 2, none⟩ = false ∧ V'.frozen? ⟨w.heap.size, 3, none⟩ = false ∧ V'.frozen? ⟨w.heap.size, 4, none⟩ = false ∧ w.heap.size < V'.heap.size) := fun V hV =>
      (para_extend _ _ 0 text nl V).mono fun e V' ⟨x1, x2⟩ => ⟨x1, hV.trans x2, LineAt.facts (Same.blk (hV.trans x2) hbk2)⟩
    have k4 := h2.at_.stack
    rw [h2.stack] at k4
    have k5 : X.cell? ⟨bp, 5, none⟩ = some (.int .i64 0) := h2.at_.depth
    have kt : X.cell? ⟨g, 4, none⟩ = some (.iface 162 (.pointer (some ⟨bb, 0, none⟩))) := h2.inPara.top
    have hgl : g < X.heap.size := World.block_lt_of_cell? _ _ kt
    have hbpl := h2.at_.lt
    obtain ⟨g0, g1, g2, g3, g4, gf0, gf1, gf2, gf3, gf4, gbl⟩ := LineAt.facts hbk2
    go_upto_region 6 with (fail)
    go_cut [5] (fun s5 wx => s5 = .bool false ∧ Mods (fun k => k = w.heap.size) W wx ∧ LineAt wx w.heap.size 0 text nl ∧ LineAt wx W1.heap.size 0 text nl)
    case first =>
      go_region_with ((go_at_call 289; refine (HE _ (by repeat (first | assumption | apply Mods.drew))).mono ?_; rintro e' wC ⟨rfl, hmC, c0, c1, c2, c3, c4, cf0, cf1, cf2, cf3, cf4, cbl⟩))
      all_goals
        have hbC := Same.blk hmC hbk2
        have hoC := Same.blk hmC hold
        have hzm := hm1.size
        have hzW := hmW.size
        have hP := put5 hbC 0 text nl
        have hkC : Same W wC := hkX.trans hmC
        have hzn : W1.heap.size ≠ w.heap.size := by have := hbk.lt; omega
        clear g0 g1 g2 g3 g4 gf0 gf1 gf2 gf3 gf4 gbl c0 c1 c2 c3 c4 cf0 cf1 cf2 cf3 cf4 cbl k4 k5 kt hx hq HE
        go_wp2_with fail
        go_meet
        case rel => exact ⟨rfl, (hkC.mono (fun _ _ h => absurd h (fun x => x))).trans hP.1, hP.2, hoC.keep1 hP.1 hzn⟩
    case rest =>
      obtain ⟨rfl, hmx, hbx, hox⟩ := hcut
      have hlts := h.lts hm0
      have hx0 : ParaL wc bp g 1 cap { p with depth := 0 } L bb gt ct m xs := h0.keep hmx (by omega) (by omega) (by omega) (by omega)
      have hTX := hN wc hx0
      have hOx : Opt wc p 5 false := hO0.keep hmx (by have hplt : p.parser < w.heap.size := World.block_lt_of_cell? _ _ hO.cell; omega)
      have hMx : Mods (fun k => k = bp) w wc := hmW.then hmx (fun b hb h => by omega)
      clear h0 hbk hO0 hmW hm1 hold hm2 h2 hbk2 hkX HE k4 k5 kt hgl hbpl g0 g1 g2 g3 g4 gf0 gf1 gf2 gf3 gf4 gbl hS0 hmx hx
      go_wp2_with fail
      refine (isBlank_any _ _ _ _ _ hs (Nat.zero_le _) hox).mono ?_
      rintro e w2 ⟨rfl, n2, rfl⟩
      rw [show (trimL (text.extract 0 text.size)).toList.isEmpty = false from hbl]
      have hbx2 : LineAt (wc.drewN n2) w.heap.size 0 text nl := hbx
      have hox2 : LineAt (wc.drewN n2) W1.heap.size 0 text nl := hox
      obtain ⟨g0, g1, g2, g3, g4, gf0, gf1, gf2, gf3, gf4, gbl⟩ := LineAt.facts hbx2
      obtain ⟨o0, o1, o2, o3, o4, of0, of1, of2, of3, of4, obl⟩ := LineAt.facts hox2
      go_wp2_with fail
      have hmB : Same wc (wc.drewN n2) := (Mods.refl _ _).drewN _
      generalize wc.drewN n2 = wB at *
      have hstop : Same wc wB := hmB
      clear hbx hox o0 o1 o2 o3 o4 of0 of1 of2 of3 of4 obl g0 g1 g2 g3 g4 gf0 gf1 gf2 gf3 gf4 gbl hox2
      refine (isBlank_any _ _ _ _ _ hs (Nat.zero_le _) hbx2).mono ?_
      rintro e w3 ⟨rfl, n3, rfl⟩
      rw [show (trimL (text.extract 0 text.size)).toList.isEmpty = false from hbl]
      have hbk3 : LineAt (wB.drewN n3) w.heap.size 0 text nl := hbx2
      have hm3 : Same wc (wB.drewN n3) := hstop.drewN _
      generalize wB.drewN n3 = w3 at *
      clear hbx2 hmB hstop hbl
      go_wp2_with fail
      go_step3
      go_wp2_with fail
      refine (news_any _).mono ?_
      rintro e w4 ⟨nb, rfl, hm4, hnb⟩
      have hm34 := hm3.trans hm4
      have hbk4 := Same.blk hm4 hbk3
      clear hm3 hm4 hbk3
      go_wp2
      go_loopg [88] 8 (fun gg j wr => ∃ k : Nat, gg = 8 - k ∧ j = .int .i64 k ∧ k ≤ 8 ∧ Same w4 wr)
      case atStart => exact ⟨0, rfl, rfl, by omega, Mods.refl _ _⟩
      case round =>
        obtain ⟨k, hg, rfl, hk8, hr5⟩ := hrel
        have hm5 := hm34.trans hr5
        have hbk5 := Same.blk hr5 hbk4
        have hnb5 := Same.blk hr5 hnb
        obtain ⟨g0, g1, g2, g3, g4, gf0, gf1, gf2, gf3, gf4, gbl⟩ := LineAt.facts hbk5
        have hcases : k = 0 ∨ k = 1 ∨ k = 2 ∨ k = 3 ∨ k = 4 ∨ k = 5 ∨ k = 6 ∨ k = 7 ∨ k = 8 := by omega
        rcases hcases with rfl | rfl | rfl | rfl | rfl | rfl | rfl | rfl | rfl
        · have n0 : wr.cell? ⟨nb, 0, none⟩ = some (.func (.func 95) #[] #[]) := hnb5.cell 0
          go_wp2_with fail
          refine (hTX 95 (by simp) wr hm5).mono ?_
          rintro e w6 ⟨rfl, hm6⟩
          clear n0 g0 g1 g2 g3 g4 gf0 gf1 gf2 gf3 gf4 gbl
          go_wp2
          go_roundg 7
          case measure => omega
          case rel => exact ⟨1, rfl, rfl, by omega, (hr5.trans hm6).alloc _⟩
        · have n0 : wr.cell? ⟨nb, 1, none⟩ = some (.func (.func 96) #[] #[]) := hnb5.cell 1
          go_wp2_with fail
          refine (hTX 96 (by simp) wr hm5).mono ?_
          rintro e w6 ⟨rfl, hm6⟩
          clear n0 g0 g1 g2 g3 g4 gf0 gf1 gf2 gf3 gf4 gbl
          go_wp2
          go_roundg 6
          case measure => omega
          case rel => exact ⟨2, rfl, rfl, by omega, (hr5.trans hm6).alloc _⟩
        · have n0 : wr.cell? ⟨nb, 2, none⟩ = some (.func (.func 97) #[] #[]) := hnb5.cell 2
          go_wp2_with fail
          refine (hTX 97 (by simp) wr hm5).mono ?_
          rintro e w6 ⟨rfl, hm6⟩
          clear n0 g0 g1 g2 g3 g4 gf0 gf1 gf2 gf3 gf4 gbl
          go_wp2
          go_roundg 5
          case measure => omega
          case rel => exact ⟨3, rfl, rfl, by omega, (hr5.trans hm6).alloc _⟩
        · have n0 : wr.cell? ⟨nb, 3, none⟩ = some (.func (.func 98) #[] #[]) := hnb5.cell 3
          go_wp2_with fail
          refine (hTX 98 (by simp) wr hm5).mono ?_
          rintro e w6 ⟨rfl, hm6⟩
          clear n0 g0 g1 g2 g3 g4 gf0 gf1 gf2 gf3 gf4 gbl
          go_wp2
          go_roundg 4
          case measure => omega
          case rel => exact ⟨4, rfl, rfl, by omega, (hr5.trans hm6).alloc _⟩
        · have n0 : wr.cell? ⟨nb, 4, none⟩ = some (.func (.func 99) #[] #[]) := hnb5.cell 4
          go_wp2_with fail
          refine (hTX 99 (by simp) wr hm5).mono ?_
          rintro e w6 ⟨rfl, hm6⟩
          clear n0 g0 g1 g2 g3 g4 gf0 gf1 gf2 gf3 gf4 gbl
          go_wp2
          go_roundg 3
          case measure => omega
          case rel => exact ⟨5, rfl, rfl, by omega, (hr5.trans hm6).alloc _⟩
        · have n0 : wr.cell? ⟨nb, 5, none⟩ = some (.func (.func 100) #[] #[]) := hnb5.cell 5
          go_wp2_with fail
          refine (hTX 100 (by simp) wr hm5).mono ?_
          rintro e w6 ⟨rfl, hm6⟩
          clear n0 g0 g1 g2 g3 g4 gf0 gf1 gf2 gf3 gf4 gbl
          go_wp2
          go_roundg 2
          case measure => omega
          case rel => exact ⟨6, rfl, rfl, by omega, (hr5.trans hm6).alloc _⟩
        · have n0 : wr.cell? ⟨nb, 6, none⟩ = some (.func (.func 101) #[] #[]) := hnb5.cell 6
          go_wp2_with fail
          refine (hTX 101 (by simp) wr hm5).mono ?_
          rintro e w6 ⟨rfl, hm6⟩
          clear n0 g0 g1 g2 g3 g4 gf0 gf1 gf2 gf3 gf4 gbl
          go_wp2
          go_roundg 1
          case measure => omega
          case rel => exact ⟨7, rfl, rfl, by omega, (hr5.trans hm6).alloc _⟩
        · have n0 : wr.cell? ⟨nb, 7, none⟩ = some (.func (.func 102) #[] #[]) := hnb5.cell 7
          go_wp2_with fail
          refine (hTX 102 (by simp) wr hm5).mono ?_
          rintro e w6 ⟨rfl, hm6⟩
          clear n0 g0 g1 g2 g3 g4 gf0 gf1 gf2 gf3 gf4 gbl
          go_wp2
          go_roundg 0
          case measure => omega
          case rel => exact ⟨8, rfl, rfl, by omega, (hr5.trans hm6).alloc _⟩
        · have h5 := hx0.same hm5
          have hO5 := hOx.keep hm5 (fun x => x)
          have HLT := Lib.hid hlts
          have HMX := Lib.hid (hMx.then hm5 (fun _ _ x => absurd x (fun x => x)))
          clear hTX hN
          go_wp2_with fail
          refine (newPara_cont bp g 1 cap { p with depth := 0 } L bb gt ct m xs 0 text 0 nl wr h5 rfl (by omega) (by omega) hs hO5 hp2 hm0 hm6).mono ?_
          rintro e w6 ⟨rfl, hmN, gt', ct', hPN, hgt⟩
          go_wp2
          try rw [Exit.noGoto_normal]
          go_end0
          refine ⟨rfl, ?_, gt', ct', hPN, ?_⟩
          · exact (HMX.out.mono (fun _ _ h => Or.inl h)).then (hmN.mono (S' := fun k => k = bp ∨ k = g ∨ k = bb ∨ k = gt) (fun _ _ h => Or.inr h)) (fun _ _ h => h)
          · rcases hgt with h | h
            · exact Or.inl h
            · right
              have := HMX.out.size
              omega
end Go.Proofs.YtdnlfdppjfjncaaGreatDoor

/- Lines joined by line feeds: the text of a paragraph; the plain facts that the parser's loop wants. -/
namespace Go.Proofs.YtdnlfdppjfjncaaGreatDoor
open Go Go.RowKit Go.Proofs

def joinT (ls : List ByteArray) : ByteArray := ⟨(Lib.join (ls.map (fun l => l.data.toList)) [10]).toArray⟩

theorem joinT_list (ls : List ByteArray) : (joinT ls).data.toList = Lib.join (ls.map (fun l => l.data.toList)) [10] := by simp [joinT]
theorem joinT_one (l : ByteArray) : joinT [l] = l := by
  apply ByteArray.ext
  simp [joinT, Lib.join_one]
theorem tail_cons (y : List UInt8) (r : List (List UInt8)) : Lib.joinTail [10] (y :: r) = 10 :: (y ++ Lib.joinTail [10] r) := by simp [Lib.joinTail]
theorem joinT_cons2 (l y : ByteArray) (r : List ByteArray) : (joinT (l :: y :: r)).data.toList = l.data.toList ++ 10 :: (joinT (y :: r)).data.toList := by
  rw [joinT_list, joinT_list, List.map_cons, List.map_cons, Lib.join_cons, Lib.join_cons, tail_cons]
theorem size_list (s : ByteArray) : s.size = s.data.toList.length := rfl
theorem joinT_size2 (l y : ByteArray) (r : List ByteArray) : (joinT (l :: y :: r)).size = l.size + 1 + (joinT (y :: r)).size := by
  rw [size_list, joinT_cons2, List.length_append, List.length_cons, size_list, size_list]
  omega

theorem joinT_mem : ∀ (ls : List ByteArray) (c : UInt8), c ∈ (joinT ls).data.toList → c = 10 ∨ ∃ l ∈ ls, c ∈ l.data.toList
  | [], c, h => by simp [joinT, Lib.join_nil] at h
  | [l], c, h => by rw [joinT_one] at h; exact Or.inr ⟨l, by simp, h⟩
  | l :: y :: r, c, h => by
    rw [joinT_cons2, List.mem_append, List.mem_cons] at h
    rcases h with h | h | h
    · exact Or.inr ⟨l, by simp, h⟩
    · exact Or.inl h
    · rcases joinT_mem (y :: r) c h with h | ⟨x, hx, h⟩
      · exact Or.inl h
      · exact Or.inr ⟨x, List.mem_cons_of_mem _ hx, h⟩

theorem get_mem {s : ByteArray} {i : Nat} (hi : i < s.size) : s[i] ∈ s.data.toList := by
  have h : i < s.data.toList.length := hi
  exact List.getElem_mem h
theorem mem_get {s : ByteArray} {c : UInt8} (h : c ∈ s.data.toList) : ∃ i, ∃ hi : i < s.size, s[i] = c := by
  obtain ⟨i, hi, rfl⟩ := List.getElem_of_mem h
  exact ⟨i, hi, rfl⟩

theorem fst1_at (s : ByteArray) (c : UInt8) (k : Nat) (hk : k < s.size) (hc : s[k] = c) : ∀ (n i : Nat), k - i = n → i ≤ k → (∀ j (hj : j < s.size), i ≤ j → j < k → s[j] ≠ c) → fst1 s c i = k
  | 0, i, hn, hi, _ => by
    have : i = k := by omega
    subst this
    rw [fst1, dif_pos hk, if_pos hc]
  | n + 1, i, hn, hi, h => by
    have hlt : i < s.size := by omega
    rw [fst1, dif_pos hlt, if_neg (h i hlt (Nat.le_refl _) (by omega))]
    exact fst1_at s c k hk hc n (i + 1) (by omega) (by omega) (fun j hj h1 h2 => h j hj (by omega) h2)

theorem list_get {s : ByteArray} {i : Nat} (hi : i < s.size) : s.data.toList[i]? = some s[i] := by
  have h : i < s.data.toList.length := hi
  rw [List.getElem?_eq_getElem h]; rfl

theorem idx_first {l y : ByteArray} {r : List ByteArray} (h10 : ∀ i (hi : i < l.size), l[i] ≠ 10) : idx1 (joinT (l :: y :: r)) 10 = (l.size : Int) := by
  have hsz := joinT_size2 l y r
  have hlt : l.size < (joinT (l :: y :: r)).size := by omega
  have hk : (joinT (l :: y :: r))[l.size] = 10 := by
    have hg := list_get hlt
    rw [joinT_cons2, List.getElem?_append_right (by rw [← size_list]; exact Nat.le_refl _), ← size_list, Nat.sub_self] at hg
    simpa using hg.symm
  have hf : fst1 (joinT (l :: y :: r)) 10 0 = l.size := by
    refine fst1_at _ 10 l.size hlt hk _ 0 rfl (Nat.zero_le _) (fun j hj _ hjl => ?_)
    have hg := list_get hj
    rw [joinT_cons2, List.getElem?_append_left (by rw [← size_list]; exact hjl), list_get hjl] at hg
    rw [← Option.some.inj hg]
    exact h10 j hjl
  unfold idx1
  rw [hf, if_pos hlt]

theorem ext_first (l y : ByteArray) (r : List ByteArray) : (joinT (l :: y :: r)).extract 0 l.size = l := by
  apply ByteArray.ext
  apply Array.ext'
  rw [Lib.extract_data, joinT_cons2, List.drop_zero, Nat.sub_zero, size_list, List.take_left']
  rfl
theorem ext_rest (l y : ByteArray) (r : List ByteArray) : (joinT (l :: y :: r)).extract (l.size + 1) (joinT (l :: y :: r)).size = joinT (y :: r) := by
  apply ByteArray.ext
  apply Array.ext'
  rw [Lib.extract_data, joinT_size2, joinT_cons2]
  have h1 : (l.data.toList ++ 10 :: (joinT (y :: r)).data.toList).drop (l.size + 1) = (joinT (y :: r)).data.toList := by
    rw [size_list, ← List.drop_drop, List.drop_left']
    · rfl
    · rfl
  rw [h1, show l.size + 1 + (joinT (y :: r)).size - (l.size + 1) = (joinT (y :: r)).size by omega, size_list, List.take_length]

/-- A line that goes on with a paragraph. -/
structure Goes (text : ByteArray) : Prop extends Plain text 0 where
  c61 : ((at0 text (p3 text 0)).toNat : Int) ≠ 61

theorem triesNo_cont (bp g cap : Nat) (p : PSt) (L : List OB) (bb gt ct m : Nat) (xs : List ByteArray) (text : ByteArray) (nl : Int) (w : World) (h : ParaL w bp g 1 cap p L bb gt ct m xs) (hd : p.depth = (0 : Nat))
    (T : Nat) (v : Value) (o : OB) (ho : L[0]? = some o) (hob : o.b = .iface T v) (hT4 : T ≠ 242) (hT : Txt text) (hP : Goes text) : TriesNo w bp 0 text nl := by
  intro f hf W hW
  have h1 := h.same hW
  have hc0 : W.cell? ⟨g, 0 * 4, none⟩ = some (.iface T v) := h1.cell 0 0 o ho (by omega) _ (by rw [← hob]; rfl)
  simp only [List.mem_cons, List.not_mem_nil, or_false] at hf
  rcases hf with rfl | rfl | rfl | rfl | rfl | rfl | rfl | rfl
  · exact newQuote_no _ text 0 nl W (Nat.zero_le _) hT hP.c62
  · exact newATX_no _ text 0 nl W (Nat.zero_le _) hT hP.c35
  · exact newSetext_cont bp g 1 cap p bb text 0 nl W h1.inPara 0 hd rfl (Nat.zero_le _) hT hP.c45 hP.c61
  · exact newHR_no _ text 0 nl W (Nat.zero_le _) hT hP.c45 hP.c95 hP.c42
  · exact newListItem_no bp g 2 cap none p T 0 v text 0 nl W h1.at_ h1.stack hd (by omega) (by omega) hc0 hT4 (Nat.zero_le _) hT hP.item
  · exact newHTML_no _ text 0 nl W (Nat.zero_le _) hT hP.c60
  · exact newFence_no _ text 0 nl W (Nat.zero_le _) hT hP.c96 hP.c126
  · exact newPre_cont bp g 1 cap p bb text 0 nl W h1.inPara

/-- The text of a paragraph: its lines. -/
structure ParaText (ls : List ByteArray) : Prop where
  ne : ls ≠ []
  small : (joinT ls).size ≤ 900000
  count : ls.length ≤ 50000
  pos : ∀ l ∈ ls, 0 < l.size
  first : ∀ l ∈ ls, ∀ h : 0 < l.size, isW l[0] = false
  no0 : ∀ l ∈ ls, ∀ i (hi : i < l.size), l[i] ≠ 0
  no10 : ∀ l ∈ ls, ∀ i (hi : i < l.size), l[i] ≠ 10
  no13 : ∀ l ∈ ls, ∀ i (hi : i < l.size), l[i] ≠ 13
  no9 : ∀ l ∈ ls, ∀ i (hi : i < l.size), l[i] ≠ 9
  last : ∀ h : 0 < (joinT ls).size, isW ((joinT ls)[(joinT ls).size - 1]'(by omega)) = false
  no91 : ∀ l r, ls = l :: r → ∀ h : 0 < l.size, l[0] ≠ 91
  begins : ∀ l r, ls = l :: r → Begins l 0
  goes : ∀ l r, ls = l :: r → ∀ x ∈ r, Goes x

theorem joinT_le : ∀ (ls : List ByteArray) (l : ByteArray), l ∈ ls → l.size ≤ (joinT ls).size
  | [x], l, h => by simp at h; subst h; rw [joinT_one]; exact Nat.le_refl _
  | x :: y :: r, l, h => by
    rw [joinT_size2]
    rcases List.mem_cons.1 h with rfl | h
    · omega
    · have := joinT_le (y :: r) l h; omega

theorem joinT_drop_le : ∀ (ls : List ByteArray) (j : Nat), (joinT (ls.drop j)).size ≤ (joinT ls).size
  | ls, 0 => Nat.le_refl _
  | [], j + 1 => by simp
  | [x], j + 1 => by
    rw [List.drop_succ_cons, List.drop_nil]
    have h : (joinT []).size = 0 := rfl
    omega
  | x :: y :: r, j + 1 => by
    have := joinT_drop_le (y :: r) j
    rw [joinT_size2, List.drop_succ_cons]
    omega

theorem joinT_first {l : ByteArray} {r : List ByteArray} (h : 0 < l.size) : ∃ h' : 0 < (joinT (l :: r)).size, (joinT (l :: r))[0] = l[0] := by
  cases r with
  | nil => rw [joinT_one]; exact ⟨h, rfl⟩
  | cons y r =>
    have hsz := joinT_size2 l y r
    refine ⟨by omega, ?_⟩
    have hg := list_get (s := joinT (l :: y :: r)) (i := 0) (by omega)
    rw [joinT_cons2, List.getElem?_append_left (by rw [← size_list]; exact h), list_get h] at hg
    exact (Option.some.inj hg).symm
end Go.Proofs.YtdnlfdppjfjncaaGreatDoor

/- closeBlock whatever builder is on top, over the contract of its build; the parent holds what was built. -/
namespace Go.Proofs.YtdnlfdppjfjncaaGreatDoor
open Go Go.RowKit Go.Proofs

/-- What building the top block leaves: the state (with the same stack), the stack's row, the parent's row, and X of what was built. -/
structure Built (w wA : World) (bp g n cap ni : Nat) (p : PSt) (l li : List Value) (inner : Value) (SA : Nat → Prop) (X : World → Value → Prop) (v : Value) (p' : PSt) : Prop where
  mods : Mods SA w wA
  at_ : PsAt wA bp p'
  stack : p'.stack = p.stack
  row : wA.ownsRow 0 121 4 (.slice (some ⟨g, 0, none⟩) n cap) n l
  inn : wA.ownsRow 0 68 1 inner ni li
  x : X wA v

/-- What closing it leaves. -/
structure GenClosed (w w' : World) (bp g n cap ni : Nat) (p' : PSt) (l li : List Value) (c inner : Value) (sp ep : Int) (SA : Nat → Prop) (X : World → Value → Prop) (TB : Nat) (v : Value) : Prop where
  mods : Mods (fun k => SA k ∨ k = bp ∨ k = g ∨ inner.ownBlock = some k) w w'
  ex : ∃ ig ic, PsAt w' bp { p' with stack := .slice (some ⟨g, 0, none⟩) (n + 1) cap } ∧
    w'.ownsRow 0 121 4 (.slice (some ⟨g, 0, none⟩) (n + 1) cap) (n + 1) (l ++ [c, .slice (some ⟨ig, 0, none⟩) (ni + 1) ic, .int .i64 sp, .int .i64 ep]) ∧
    w'.ownsRow 0 68 1 (.slice (some ⟨ig, 0, none⟩) (ni + 1) ic) (ni + 1) (li ++ [.iface TB v]) ∧ (inner.ownBlock = some ig ∨ w.heap.size ≤ ig)
  x : X w' v

set_option maxRecDepth 100000 in
set_option maxHeartbeats 4000000 in
theorem close_gen (bp g n cap ni : Nat) (p : PSt) (l li : List Value) (c inner i : Value) (T fb TB : Nat) (a : Option Addr) (sp ep sl el : Int) (SA : Nat → Prop) (X : World → Value → Prop) (w : World) (hp : PsAt w bp p) (hst : p.stack = .slice (some ⟨g, 0, none⟩) (n + 1 + 1) cap) (hn : n ≤ 100)
    (hown : w.ownsRow 0 121 4 (.slice (some ⟨g, 0, none⟩) (n + 1 + 1) cap) (n + 1 + 1) ((l ++ [c, inner, .int .i64 sp, .int .i64 ep]) ++ [.iface T (.pointer a), i, .int .i64 sl, .int .i64 el]))
    (_hin : w.ownsRow 0 68 1 inner ni li) (hni : ni ≤ 100000)
    (hM : ∀ (k : Nat) (w : World), (method (k + 1) T (.pointer a) "pub-paratext/pub/rscmarkdown.build").run Tryz.prog w = .ok (fb, .pointer a) w) (hTB : TB ≠ 111)
    (hF : ∀ (args : Array Value) (w : World), (callFunc fb args).run Tryz.prog w = .ok (.enter fb args) w)
    (hB : ∀ W, Same w W → Calls Tryz.prog fb #[.pointer a, .iface 116 (.pointer (some ⟨bp, 0, none⟩))] W fun e wA => ∃ bv p', e = .returned (.iface TB (.pointer bv)) ∧
      Built W wA bp g (n + 1 + 1) cap ni p ((l ++ [c, inner, .int .i64 sp, .int .i64 ep]) ++ [.iface T (.pointer a), i, .int .i64 sl, .int .i64 el]) li inner SA X (.pointer bv) p')
    (hX : ∀ W W' v, (∃ q, PsAt W bp q) → (∃ cur, Blk W g cur 121) → X W v → Mods (fun k => k = bp ∨ k = g ∨ inner.ownBlock = some k) W W' → X W' v) :
    Calls Tryz.prog 73 #[.pointer (some ⟨bp, 0, none⟩)] w fun e w' => ∃ bv p', e = .returned (.iface TB (.pointer bv)) ∧ p'.stack = p.stack ∧ GenClosed w w' bp g n cap ni p' l li c inner sp ep SA X TB (.pointer bv) := by
  obtain ⟨c0, c1, c2, c3, cf, cl⟩ := row_cells hown
  have k4 := hp.stack
  rw [hst] at k4
  have hbl := hp.lt
  have w1 : IntKind.i64.wrap ((n : Int) + 1) = (n : Int) + 1 := IntWalk.i64_in _ (by omega)
  have w2 : (0 : Int) ≤ (n : Int) + 1 := by omega
  have w3 : (n : Int) + 1 < (n : Int) + 1 + 1 := by omega
  have w4 : ((n : Int) + 1).toNat = n + 1 := by omega
  have hE := eql_builder_nil
  have HX := Lib.hid hX
  clear cf hX
  go_enter Tryz.func73, Tryz.ntmps73
  go_wp2_with fail
  go_quiet (fail)
  go_wp2_with fail
  have hD : Same w (w.drewN nq) := (Mods.refl _ w).drewN nq
  generalize hW : (w.drewN nq : World) = W at *
  clear hW
  have hBW := hB W hD
  clear hB
  refine hBW.mono ?_
  rintro e wA ⟨bv, p', rfl, hPB⟩
  obtain ⟨hmA, hpA, hstA, hownA, hinA, hxA⟩ := hPB
  clear c0 c1 c2 c3 k4 hbl
  have k4 := hpA.stack
  have f4 := hpA.fr 4
  have hbl := hpA.lt
  have hL2 := fun X v w => as_List_no TB X v w hTB
  have HST := Lib.hid hstA
  rw [hstA, hst] at k4
  have hcap : n + 1 + 1 ≤ cap := by
    rcases hownA.2 with ⟨h, _⟩ | ⟨_, _, _, h, _, _, hc, _⟩
    · cases h
    · cases h; exact hc
  have w5 : (n : Int) + 1 ≤ cap := by omega
  have w6 : IntKind.i64.wrap (n : Int) = n := IntWalk.i64_in _ (by omega)
  have w7 : (0 : Int) < (n : Int) + 1 := by omega
  have w8 : (n : Int) < (n : Int) + 1 := by omega
  have w9 : (0 : Int) ≤ (n : Int) := by omega
  clear hE hM hF hstA
  go_wp2_with fail
  go_region
  go_wp2_with fail
  generalize hX : ((wA.setCell ⟨bp, 4, none⟩ (.slice (some ⟨g, 0, none⟩) (n + 1) cap)).drew : World) = Y
  have hmX : Mods (fun k => k = bp) wA Y := by subst hX; exact ((Mods.refl (fun k => k = bp) wA).setCell (p := ⟨bp, 4, none⟩) (fun _ => rfl) _).drew
  have hpX : PsAt Y bp { p' with stack := .slice (some ⟨g, 0, none⟩) (n + 1) cap } := by
    subst hX
    exact PsAt.drew (hpA.set 4 _ _ rfl (by decide))
  clear hX
  have hownX := ownsRow_keep hownA hmX (fun k hk x => own_ne_ps hownA hpA (by decide) (by rw [← x]; exact hk))
  have hinX := ownsRow_keep hinA hmX (fun k hk x => own_ne_ps hinA hpA (by decide) (by rw [← x]; exact hk))
  have hownP := ownsRow_pop hownX rfl
  obtain ⟨d0, d1, d2, d3, df, dl⟩ := row_cells hownP
  clear k4 f4 hbl
  have k4 := hpX.stack
  have hbl := hpX.lt
  go_quiet (fail)
  go_wp2_with (at_builtin; refine ap_blk rfl (.tmp 106) (.tmp 108) rfl inner ni li rfl ((ownsRow_keep hinX ((Mods.refl (fun _ => False) Y).drewN nq) (fun _ _ x => x)).alloc _) Y.heap.size 1 _ (.pointer bv) rfl ((Blk.newAt _ _ rfl).cell 0) (by omega) ?_)
  intro ig ic wB hinB hgrow hloc
  generalize hZ : ((Y.drewN nq).alloc _ : World) = Z at *
  have hmZ : Same Y Z := by subst hZ; exact ((Mods.refl _ Y).drewN nq).alloc _
  have hZs : Z.heap.size = Y.heap.size + 1 := by subst hZ; simp
  clear hZ
  have hmB := grown_mods hgrow
  have hinZ := ownsRow_keep hinX hmZ (fun _ _ x => x)
  have hpB := (hpX.same hmZ).keep hmB (own_ne_ps hinZ (hpX.same hmZ) (by decide))
  have hownB := ownsRow_keep (ownsRow_keep hownP hmZ (fun _ _ x => x)) hmB (fun k hk => own_ne_row hinZ (ownsRow_keep hownP hmZ (fun _ _ x => x)) hk (by decide))
  obtain ⟨q0, q1, q2, q3, qf, ql⟩ := row_cells hownB
  have qf1 := qf (n * 4 + 1)
  clear qf df d0 d1 d2 d3
  go_wp2
  go_ret
  have hgbp : g ≠ bp := fun h => own_ne_ps hownB hpB (by decide) (by rw [h]; rfl)
  have hmF : Mods (fun k => k = g) wB (wB.setCell ⟨g, n * 4 + 1, none⟩ (.slice (some ⟨ig, 0, none⟩) (ni + 1) ic)) := (Mods.refl (fun k => k = g) wB).setCell (p := ⟨g, n * 4 + 1, none⟩) (fun _ => rfl) _
  have hlen : l.length = n * 4 := by have := hownB.1; simp at this; omega
  have hgrow4 : Mods (fun k => k = bp ∨ k = g ∨ inner.ownBlock = some k) wA (wB.setCell ⟨g, n * 4 + 1, none⟩ (.slice (some ⟨ig, 0, none⟩) (ni + 1) ic)) := by
    have m1 := hmX.mono (S' := fun k => k = bp ∨ k = g ∨ inner.ownBlock = some k) (fun _ _ h => Or.inl h)
    have m2 := m1.then hmZ (fun _ _ h => absurd h (fun x => x))
    have m3 := m2.then hmB (fun _ _ h => Or.inr (Or.inr h))
    exact m3.then hmF (fun _ _ h => Or.inr (Or.inl h))
  refine ⟨bv, p', rfl, HST.out, ?_, ⟨ig, ic, hpB.set_other (a := ⟨g, n * 4 + 1, none⟩) hgbp _, row_in hlen rfl hownB, ?_, ?_⟩, ?_⟩
  · exact ((hD.mono (S' := fun k => SA k ∨ k = bp ∨ k = g ∨ inner.ownBlock = some k) (fun _ _ h => absurd h (fun x => x))).then hmA (fun _ _ h => Or.inl h)).then hgrow4 (fun _ _ h => Or.inr h)
  · exact ownsRow_keep hinB hmF (fun k hk he => own_ne_row hinB hownB (g := g) rfl (by decide) (by rw [← he]; exact hk))
  · rcases hloc with h | h
    · exact Or.inl h
    · right
      have h1 := hD.size
      have h2 := hmA.size
      have h3 := hmX.size
      have h4 := hmZ.size
      omega
  · obtain ⟨gx, _, he, ⟨cur, hcur⟩, _, _⟩ := ownsRow_form hownA (by omega)
    cases he
    exact HX.out wA _ _ ⟨p', hpA⟩ ⟨cur, hcur⟩ hxA hgrow4
end Go.Proofs.YtdnlfdppjfjncaaGreatDoor

/- A text that is read line by line; the parser's loop over it, whatever the lines do. -/
namespace Go.Proofs.YtdnlfdppjfjncaaGreatDoor
open Go Go.RowKit Go.Proofs

/-- rest j is what is left of a text when j of its lines have been read. -/
structure Feed (rest : Nat → ByteArray) (ls : List ByteArray) : Prop where
  done : rest ls.length = ⟨#[]⟩
  step : ∀ j l, ls[j]? = some l → (rest j).data.toList = l.data.toList ++ 10 :: (rest (j + 1)).data.toList ∨ (rest j = l ∧ 0 < l.size ∧ rest (j + 1) = ⟨#[]⟩)
  no10 : ∀ l ∈ ls, ∀ i (hi : i < l.size), l[i] ≠ 10
  no13 : ∀ j i (hi : i < (rest j).size), (rest j)[i] ≠ 13
  no0 : ∀ i (hi : i < (rest 0).size), (rest 0)[i] ≠ 0
  small : ∀ j, (rest j).size ≤ 900000
  count : ls.length ≤ 900000

theorem cut_lt {J l B : ByteArray} (h : J.data.toList = l.data.toList ++ 10 :: B.data.toList) : J.size = l.size + 1 + B.size := by
  rw [size_list, h, List.length_append, List.length_cons, size_list, size_list]; omega
theorem cut_idx {J l B : ByteArray} (h : J.data.toList = l.data.toList ++ 10 :: B.data.toList) (h10 : ∀ i (hi : i < l.size), l[i] ≠ 10) : idx1 J 10 = (l.size : Int) := by
  have hsz := cut_lt h
  have hlt : l.size < J.size := by omega
  have hk : J[l.size] = 10 := by
    have hg := list_get hlt
    rw [h, List.getElem?_append_right (by rw [← size_list]; exact Nat.le_refl _), ← size_list, Nat.sub_self] at hg
    simpa using hg.symm
  have hf : fst1 J 10 0 = l.size := by
    refine fst1_at _ 10 l.size hlt hk _ 0 rfl (Nat.zero_le _) (fun j hj _ hjl => ?_)
    have hg := list_get hj
    rw [h, List.getElem?_append_left (by rw [← size_list]; exact hjl), list_get hjl] at hg
    rw [← Option.some.inj hg]
    exact h10 j hjl
  unfold idx1
  rw [hf, if_pos hlt]
theorem cut_first {J l B : ByteArray} (h : J.data.toList = l.data.toList ++ 10 :: B.data.toList) : J.extract 0 l.size = l := by
  apply ByteArray.ext
  apply Array.ext'
  rw [Lib.extract_data, h, List.drop_zero, Nat.sub_zero, size_list, List.take_left']
  rfl
theorem cut_rest {J l B : ByteArray} (h : J.data.toList = l.data.toList ++ 10 :: B.data.toList) : J.extract (l.size + 1) J.size = B := by
  have hsz := cut_lt h
  apply ByteArray.ext
  apply Array.ext'
  rw [Lib.extract_data, h]
  have h1 : (l.data.toList ++ 10 :: B.data.toList).drop (l.size + 1) = B.data.toList := by
    rw [size_list, ← List.drop_drop, List.drop_left']
    · rfl
    · rfl
  rw [h1, hsz, show l.size + 1 + B.size - (l.size + 1) = B.size by omega, size_list, List.take_length]

theorem empty_of {s : ByteArray} (h : s.size = 0) : s = ⟨#[]⟩ := by
  apply ByteArray.ext_getElem
  · exact h
  · intro i h1 h2; omega

def rootV' (v : Option Addr) : Value := .iface 98 (.pointer v)

/-- What the loop over the lines, the closing of the blocks and the loop over the texts are asked: R j: behind j lines; D tx i: closed, and the inlines of i of the n texts in tx read. -/
structure Reads (w : World) (bp pp : Nat) (ls : List ByteArray) (R : Nat → World → Prop) (D : Value → Nat → World → Prop) (n : Nat) : Prop where
  line : ∀ j W, R j W → W.cell? ⟨bp, 3, none⟩ = some (.int .i64 (j : Nat)) ∧ W.frozen? ⟨bp, 3, none⟩ = false ∧ bp < W.heap.size
  same : ∀ j W W', R j W → Same W W' → R j W'
  first : ∀ W g cap v, Same w W → w.heap.size ≤ g → PsAt W bp { p0 pp with stack := .slice (some ⟨g, 0, none⟩) 1 cap } →
    W.ownsRow 0 121 4 (.slice (some ⟨g, 0, none⟩) 1 cap) 1 [rootV' v, .slice none 0 0, .int .i64 0, .int .i64 0] → R 0 W
  step : ∀ j l nl W, ls[j]? = some l → R j W → Calls Tryz.prog 64 #[.pointer (some ⟨bp, 0, none⟩), LV 0 l nl] (W.setCell ⟨bp, 3, none⟩ (.int .i64 ((j : Int) + 1))) fun e w2 => e = .returned (.tuple #[]) ∧ R (j + 1) w2
  close : ∀ W, R ls.length W → Calls Tryz.prog 65 #[.pointer (some ⟨bp, 0, none⟩), .int .i64 0] W fun e w' => e = .returned (.tuple #[]) ∧ ∃ a c, w'.cell? ⟨bp, 11, none⟩ = some (.slice a n c) ∧ D (.slice a n c) 0 w'
  texts : ∀ a c i W, i < n → D (.slice a n c) i W → ∃ g tb s, a = some ⟨g, 0, none⟩ ∧ n ≤ c ∧ W.cell? ⟨g, i, none⟩ = some (.pointer (some ⟨tb, 0, none⟩)) ∧ W.cell? ⟨tb, 3, none⟩ = some (.string s) ∧
      Calls Tryz.prog 66 #[.pointer (some ⟨bp, 0, none⟩), .string s] W fun e w' => ∃ a2 n2 c2, e = .returned (.slice a2 n2 c2) ∧ (∃ u, w'.cell? ⟨tb, 2, none⟩ = some u ∧ w'.frozen? ⟨tb, 2, none⟩ = false ∧ tb < w'.heap.size) ∧ D (.slice a n c) (i + 1) (w'.setCell ⟨tb, 2, none⟩ (.slice a2 n2 c2))
  sameD : ∀ tx i W W', D tx i W → Same W W' → D tx i W'
  fin : ∀ tx W, D tx n W → (∃ rk, W.cell? ⟨bp, 1, none⟩ = some (.pointer (some ⟨rk, 0, none⟩))) ∧ (∃ c, W.cell? ⟨bp, 6, none⟩ = some (.bool c)) ∧ W.cell? ⟨pp, 2, none⟩ = some (.bool false) ∧ W.cell? ⟨bp, 0, none⟩ = some (.pointer (some ⟨pp, 0, none⟩))

set_option maxRecDepth 100000 in
set_option maxHeartbeats 8000000 in
theorem parse_gen (pp : Nat) (rest : Nat → ByteArray) (ls : List ByteArray) (w : World) (hF : Feed rest ls) (R : Nat → World → Prop) (D : Value → Nat → World → Prop) (n : Nat) (hn : n ≤ 100000) (hR : Reads w w.heap.size pp ls R D n) :
    Calls Tryz.prog 51 #[.pointer (some ⟨pp, 0, none⟩), .string (rest 0)] w fun e w' => ∃ rk c, e = .returned (.tuple #[.pointer (some ⟨rk, 0, none⟩), .bool c]) ∧ w'.cell? ⟨w.heap.size, 1, none⟩ = some (.pointer (some ⟨rk, 0, none⟩)) ∧ ∃ tx, D tx n w' := by
  have hs6 : (rest 0).size ≤ 1000000 := by have := hF.small 0; omega
  have i0 := idx1_none hF.no0
  go_enter Tryz.func51, Tryz.ntmps51
  go_wp2_with fail
  refine (zzContains_any (rest 0) 0 _ hs6).mono ?_
  rintro e w' ⟨rfl, rfl⟩
  rw [i0]
  generalize hW : (World.alloc _ _ : World) = W
  have hm0 : Same w W := by subst hW; exact (Mods.refl _ w).alloc _
  have hp0 : PsAt W w.heap.size { p0 pp with depth := 0 } := by
    subst hW
    exact ⟨Tryz.zeroCells95.toList.drop 12, Blk.newAt _ _ rfl⟩
  clear hW
  generalize hbp : w.heap.size = bp at *
  have k5 := hp0.depth
  have f5 := hp0.fr 5
  have hbl := hp0.lt
  go_wp2_with fail
  generalize hX : (World.alloc (World.setCell _ _ _) _ : World) = X
  have hmX : Same w X := by
    subst hX
    exact (hm0.setCell (p := ⟨bp, 5, none⟩) (fun h => absurd h (Nat.not_lt.2 (Nat.le_of_eq hbp))) _).alloc _
  have hpX : PsAt X bp (p0 pp) := by
    subst hX
    exact PsAt.alloc (hp0.set 5 (.int .i64 (-1)) (p0 pp) rfl (by decide)) _
  clear hX
  refine (addBlock_any bp 0 0 none (p0 pp) _ (.pointer (some ⟨W.heap.size, 0, none⟩)) [] (-1) X hpX rfl (by omega) rfl rfl ⟨rfl, Or.inl ⟨rfl, rfl⟩⟩ (fun g h => by cases h) rfl).mono ?_
  rintro e w1 ⟨rfl, hm1, g, cap, hp1, hown1, hgl1⟩
  have hmw1 : Same w w1 := hmX.then hm1 (fun b hb h => by
    rcases h with h | h
    · omega
    · cases h)
  have hXs := hmX.size
  have hgw : w.heap.size ≤ g := by
    by_cases h : g < X.heap.size
    · cases hgl1 h
    · omega
  have hR0 : R 0 w1 := hR.first w1 g cap (some ⟨W.heap.size, 0, none⟩) hmw1 hgw hp1 hown1
  clear k5 f5 hbl hm0 hp0 hmX hpX hm1 hp1 hown1 hgl1 hmw1 hXs hgw
  go_wp2_with fail
  go_loopg [1] ls.length (fun k v1 wr => ∃ j : Nat, k = ls.length - j ∧ j ≤ ls.length ∧ v1 = .string (rest j) ∧ R j wr)
  case atStart => exact ⟨0, rfl, Nat.zero_le _, rfl, hR0⟩
  case round =>
    clear hR0
    obtain ⟨j, hk, hj, rfl, hRj⟩ := hrel
    have HK := Lib.hid hk
    clear hk
    by_cases hlt : j < ls.length
    · obtain ⟨l, hl⟩ : ∃ l, ls[j]? = some l := ⟨_, List.getElem?_eq_getElem hlt⟩
      obtain ⟨k3, f3, l3⟩ := hR.line j wr hRj
      have i13 := idx1_none (hF.no13 j)
      have hlmem : l ∈ ls := List.mem_of_getElem? hl
      have h10l := hF.no10 l hlmem
      have hs7 : (rest j).size ≤ 1000000 := by have := hF.small j; omega
      have w3 : IntKind.i64.wrap ((j : Int) + 1) = (j : Int) + 1 := IntWalk.i64_in _ (by have := hF.count; omega)
      have STEP := Lib.hid (fun nl wx (hx : Same wr wx) => hR.step j l nl wx hl (hR.same j wr wx hRj hx))
      rcases hF.step j l hl with hst | ⟨hst, hp, hr⟩
      · have i10 := cut_idx hst h10l
        have hx1 := cut_first hst
        have hx2 := cut_rest hst
        have hsz := cut_lt hst
        generalize hJ : rest j = J at *
        have hp2 : 0 < J.size := by omega
        have e0 : J.toList.isEmpty = false := bs_ne hp2
        have e0' : (!J.toList.isEmpty) = true := by rw [e0]; rfl
        have v1 : (l.size : Int) + 1 ≤ J.size := by omega
        have v2 : (l.size : Int) ≤ J.size := by omega
        have v3 : ¬ ((l.size : Int) < 0) := by omega
        have v4 : (0 : Int) ≤ l.size := by omega
        have v5 : IntKind.i64.wrap ((l.size : Int) + 1) = (l.size : Int) + 1 := IntWalk.i64_in _ (by omega)
        have v6 : ((l.size : Int) + 1).toNat = l.size + 1 := by omega
        have v7 : (0 : Int) ≤ (l.size : Int) + 1 := by omega
        have HX2 := Lib.hid hx2
        clear hRj hlmem h10l hJ hsz hst hx2
        go_wp2_with fail
        refine (zzIndex_any J 10 _ hs7).mono ?_
        rintro e w' ⟨rfl, rfl⟩
        rw [i10]
        go_wp2_with fail
        refine (zzIndex_any J 13 _ hs7).mono ?_
        rintro e w' ⟨rfl, rfl⟩
        rw [i13]
        go_wp2_with fail
        first | go_quiet (fail) | skip
        go_wp2_with fail
        refine (STEP.out 10 _ ((Mods.refl _ wr).drewN nq)).mono ?_
        rintro e w2 ⟨rfl, hR2⟩
        go_wp2_with fail
        go_roundg (ls.length - (j + 1))
        case measure => have := HK.out; omega
        case rel => exact ⟨j + 1, rfl, hlt, by rw [HX2.out], hR2⟩
      · rw [hst] at i13 hs7
        rw [hst]
        have i10 := idx1_none h10l
        have e0 : l.toList.isEmpty = false := bs_ne hp
        have e0' : (!l.toList.isEmpty) = true := by rw [e0]; rfl
        have HR := Lib.hid hr
        clear hRj hlmem h10l hst hr
        go_wp2_with fail
        refine (zzIndex_any l 10 _ hs7).mono ?_
        rintro e w' ⟨rfl, rfl⟩
        rw [i10]
        go_wp2_with fail
        refine (zzIndex_any l 13 _ hs7).mono ?_
        rintro e w' ⟨rfl, rfl⟩
        rw [i13]
        go_wp2_with fail
        refine (STEP.out _ wr (Mods.refl _ wr)).mono ?_
        rintro e w2 ⟨rfl, hR2⟩
        go_wp2_with fail
        go_roundg (ls.length - (j + 1))
        case measure => have := HK.out; omega
        case rel => exact ⟨j + 1, rfl, hlt, by rw [HR.out], hR2⟩
    · have hjl : j = ls.length := by omega
      subst hjl
      rw [hF.done]
      have e0 : (⟨#[]⟩ : ByteArray).toList.isEmpty = true := by simp [ByteArray.toList_eq]
      have e0' : (!(⟨#[]⟩ : ByteArray).toList.isEmpty) = false := by rw [e0]; rfl
      go_wp2_with fail
      refine (hR.close wr hRj).mono ?_
      rintro e w3 ⟨rfl, a, c, k11, hD0⟩
      clear hRj
      go_wp2_with fail
      go_loopg [83] n (fun k v83 wr2 => ∃ i : Nat, k = n - i ∧ i ≤ n ∧ v83 = .int .i64 i ∧ D (.slice a n c) i wr2)
      case atStart => exact ⟨0, rfl, Nat.zero_le _, rfl, hD0⟩
      case round =>
        clear k11 hD0
        obtain ⟨i, hk2, hin, rfl, hDi⟩ := hrel
        have HK2 := Lib.hid hk2
        clear hk2
        by_cases hil : i < n
        · obtain ⟨gt, tb, s, rfl, hnc, t0, r3, hI⟩ := hR.texts a c i wr hil hDi
          have u1 : (i : Int) < n := by omega
          have u2 : (0 : Int) ≤ i := by omega
          have u3 : IntKind.i64.wrap ((i : Int) + 1) = (i : Int) + 1 := IntWalk.i64_in _ (by omega)
          go_wp2_with fail
          refine hI.mono ?_
          rintro e w4 ⟨a2, n2, c2, rfl, ⟨u, m2, f2, l2⟩, hD2⟩
          go_wp2_with fail
          go_roundg (n - (i + 1))
          case measure => have := HK2.out; omega
          case rel => exact ⟨i + 1, rfl, hil, by simp, hD2⟩
        · have u1 : ¬ ((i : Int) < n) := by omega
          have hi : i = n := by omega
          subst hi
          obtain ⟨⟨rk, k1⟩, ⟨cc, k6⟩, o2, k0⟩ := hR.fin _ wr hDi
          go_wp2_with fail
          go_quiet (fail)
          go_wp2_with fail
          go_ret2
          exact ⟨rk, _, rfl, by rw [hbp]; exact k1, _, hR.sameD _ _ _ _ hDi ((Mods.refl _ wr).drewN nq)⟩
end Go.Proofs.YtdnlfdppjfjncaaGreatDoor
