/- The stack of open blocks: addBlock, trimStack. -/
import Derived.Test.YtdnlfdppjfjncaaGreatDoorAppend
namespace Go.Proofs.YtdnlfdppjfjncaaGreatDoor
open Go Go.RowKit Go.Proofs

theorem ownsRow_form {w : World} {e size n : Nat} {v : Value} {xs : List Value} (h : w.ownsRow 0 e size v n xs) (hn : 0 < n) :
    ∃ g cap, v = .slice (some ⟨g, 0, none⟩) n cap ∧ (∃ cur, Blk w g cur e) ∧ (∀ i, w.frozen? ⟨g, i, none⟩ = false) ∧ (∀ (j : Nat) (u : Value), xs[j]? = some u → w.cell? ⟨g, j, none⟩ = some u) := by
  obtain ⟨h1, h2⟩ := h
  rcases h2 with ⟨_, h2⟩ | ⟨g, cap, cur, rfl, _, hg, hc, hm, hs, ht⟩
  · omega
  · refine ⟨g, cap, rfl, ⟨cur, hg⟩, fun i => Blk.fr (T := e) hg i, fun j u hj => ?_⟩
    rw [Blk.cell (T := e) hg, ← hj, ← ht]
    have hj' : j < xs.length := (List.getElem?_eq_some_iff.1 hj).1
    rw [List.getElem?_take_of_lt (by omega)]
    simp

theorem ownsRow_set {w : World} {e size n g cap : Nat} {xs : List Value} (h : w.ownsRow 0 e size (.slice (some ⟨g, 0, none⟩) n cap) n xs) (j : Nat) (u : Value) (_hj : j < n * size) :
    (w.setCell ⟨g, j, none⟩ u).ownsRow 0 e size (.slice (some ⟨g, 0, none⟩) n cap) n (xs.set j u) := by
  obtain ⟨h1, h2⟩ := h
  rcases h2 with ⟨h2, _⟩ | ⟨g', cap', cur, hv, _, hg, hc, hm, hs, ht⟩
  · cases h2
  · cases hv
    refine ⟨by simpa using h1, .inr ⟨g, cap, cur.setIfInBounds j u, rfl, Nat.zero_le _, Blk.set_same (T := e) hg j u, hc, hm, by simpa using hs, ?_⟩⟩
    rw [← ht]
    simp [List.take_set]

theorem ownsRow_keep {w w' : World} {e size n : Nat} {v : Value} {xs : List Value} {S : Nat → Prop} (h : w.ownsRow 0 e size v n xs) (hm : Mods S w w') (hS : ∀ g, v.ownBlock = some g → ¬ S g) :
    w'.ownsRow 0 e size v n xs := by
  obtain ⟨h1, h2⟩ := h
  refine ⟨h1, ?_⟩
  rcases h2 with h2 | ⟨g, cap, cur, rfl, hb, hg, rest⟩
  · exact .inl h2
  · exact .inr ⟨g, cap, cur, rfl, hb, Blk.keep (T := e) hg hm (hS g rfl), rest⟩

set_option maxHeartbeats 1000000 in
theorem trimStack_none (bp n cap : Nat) (a : Option Addr) (p : PSt) (w : World) (hp : PsAt w bp p) (hst : p.stack = .slice a n cap) (_hn : n ≤ 1000000) :
    Calls Tryz.prog 65 #[.pointer (some ⟨bp, 0, none⟩), .int .i64 n] w fun e w' => e = .returned (.tuple #[]) ∧ w = w' := by
  have k4 := hp.stack
  rw [hst] at k4
  clear hst
  go_enter Tryz.func65, Tryz.ntmps65
  go_wp2
  go_loopg [] 0 (fun g wr => w = wr)
  case atStart => rfl
  case round =>
    subst hrel
    go_wp2
    go_end0
    exact ⟨rfl, rfl⟩

theorem mods_add {S : Nat → Prop} {w w1 : World} (hk : Mods S w w1) {bp g : Nat} (j nq : Nat) (hb : S bp) (hg : g < w.heap.size → S g) (v1 v2 v3 v4 : Value) :
    Mods S w (((((w1.setCell ⟨bp, 4, none⟩ v1).drewN nq).setCell ⟨g, j, none⟩ v2).setCell ⟨g, j + 2, none⟩ v3).setCell ⟨g, j + 2 + 1, none⟩ v4) := by
  have h1 := Mods.drewN (hk.setCell (p := ⟨bp, 4, none⟩) (fun _ => hb) v1) nq
  have h2 := h1.setCell (p := ⟨g, j, none⟩) hg v2
  have h3 := h2.setCell (p := ⟨g, j + 2, none⟩) hg v3
  exact h3.setCell (p := ⟨g, j + 2 + 1, none⟩) hg v4

theorem ps_add {w1 : World} {bp g : Nat} {p : PSt} (hp1 : PsAt w1 bp p) (hne : g ≠ bp) (j nq : Nat) (v1 v2 v3 v4 : Value) :
    PsAt (((((w1.setCell ⟨bp, 4, none⟩ v1).drewN nq).setCell ⟨g, j, none⟩ v2).setCell ⟨g, j + 2, none⟩ v3).setCell ⟨g, j + 2 + 1, none⟩ v4) bp { p with stack := v1 } := by
  have h1 : PsAt ((w1.setCell ⟨bp, 4, none⟩ v1).drewN nq) bp { p with stack := v1 } := PsAt.drewN (hp1.set 4 v1 { p with stack := v1 } rfl (by decide)) nq
  have h2 := h1.set_other (a := ⟨g, j, none⟩) hne v2
  have h3 := h2.set_other (a := ⟨g, j + 2, none⟩) hne v3
  exact h3.set_other (a := ⟨g, j + 2 + 1, none⟩) hne v4

theorem row_add {w1 : World} {bp g n cap : Nat} {l : List Value} (hlen : l.length = n * 4) (hne : g ≠ bp) (nq : Nat) (v1 c x y : Value)
    (hown : w1.ownsRow 0 121 4 (.slice (some ⟨g, 0, none⟩) (n + 1) cap) (n + 1) (l ++ [.nilIface, .slice none 0 0, .int .i64 0, .int .i64 0])) :
    (((((w1.setCell ⟨bp, 4, none⟩ v1).drewN nq).setCell ⟨g, n * 4, none⟩ c).setCell ⟨g, n * 4 + 2, none⟩ x).setCell ⟨g, n * 4 + 2 + 1, none⟩ y).ownsRow 0 121 4 (.slice (some ⟨g, 0, none⟩) (n + 1) cap) (n + 1)
      (l ++ [c, .slice none 0 0, x, y]) := by
  have ho : ((w1.setCell ⟨bp, 4, none⟩ v1).drewN nq).ownsRow 0 121 4 (.slice (some ⟨g, 0, none⟩) (n + 1) cap) (n + 1) (l ++ [.nilIface, .slice none 0 0, .int .i64 0, .int .i64 0]) :=
    ownsRow_keep hown (((Mods.refl (fun k => k = bp) w1).setCell (p := ⟨bp, 4, none⟩) (fun _ => rfl) v1).drewN nq) (by intro g' hg'; cases hg'; exact hne)
  have h3 := ownsRow_set (ownsRow_set (ownsRow_set ho (n * 4) c (by omega)) (n * 4 + 2) x (by omega)) (n * 4 + 2 + 1) y (by omega)
  have e : (((l ++ [Value.nilIface, .slice none 0 0, .int .i64 0, .int .i64 0]).set (n * 4) c).set (n * 4 + 2) x).set (n * 4 + 2 + 1) y = l ++ [c, .slice none 0 0, x, y] := by
    rw [← hlen]
    simp [List.set_append]
    rw [if_neg (by omega), show l.length + 2 + 1 - l.length = 3 by omega]
    rfl
  rw [e] at h3
  exact h3

/-- What addBlock leaves. -/
structure Added (w w' : World) (bp : Nat) (p : PSt) (n : Nat) (l : List Value) (c : Value) : Prop where
  mods : Mods (fun k => k = bp ∨ p.stack.ownBlock = some k) w w'
  ex : ∃ g cap, PsAt w' bp { p with stack := .slice (some ⟨g, 0, none⟩) (n + 1) cap } ∧
    w'.ownsRow 0 121 4 (.slice (some ⟨g, 0, none⟩) (n + 1) cap) (n + 1) (l ++ [c, .slice none 0 0, .int .i64 p.lineno, .int .i64 p.lineno]) ∧ (g < w.heap.size → p.stack.ownBlock = some g)

set_option maxHeartbeats 4000000 in
theorem addBlock_any (bp n cap : Nat) (a : Option Addr) (p : PSt) (T : Nat) (c : Value) (l : List Value) (d : Int) (w : World) (hp : PsAt w bp p) (hst : p.stack = .slice a n cap) (hn : n ≤ 1000) (hd : p.depth = d) (hdn : d + 1 = n)
    (hown : w.ownsRow 0 121 4 (.slice a n cap) n l) (hne : ∀ g, (Value.slice a n cap).ownBlock = some g → g ≠ bp) (_hc : c.oneCell' = true) :
    Calls Tryz.prog 62 #[.pointer (some ⟨bp, 0, none⟩), .iface T c] w fun e w' => e = .returned (.tuple #[]) ∧ Added w w' bp p n l (.iface T c) := by
  have k5 := hp.depth
  rw [hd] at k5
  have hdl : -1 ≤ d := by omega
  have hdu : d ≤ 1000 := by omega
  go_enter Tryz.func62, Tryz.ntmps62
  go_wp2_with fail
  refine (trimStack_none bp n cap a p w hp hst (by omega)).mono ?_
  rintro e w' ⟨rfl, rfl⟩
  have k3 := hp.lineno
  have k4 := hp.stack
  rw [hst] at k4
  have f4 := hp.fr 4
  have HD := Lib.hid hd
  have HS := Lib.hid hst
  clear hd hst k5
  have hbp := hp.lt
  go_wp2_with (at_builtin; refine ap_ob rfl (.tmp 16) (.tmp 18) rfl _ n l rfl (hown.alloc _) w.heap.size 1 [.nilIface, .slice none 0 0, .int .i64 0, .int .i64 0] rfl rfl ?_ ?_ (by omega) ?_)
  · intro j u hj
    rw [(Blk.newAt (w := w) _ _ rfl).cell j]
    simpa using hj
  · intro u hu
    simp at hu
    rcases hu with rfl | rfl | rfl | rfl <;> rfl
  · intro g cap' w1 hown1 hgrow hloc
    have hlen : l.length = n * 4 := hown.1
    obtain ⟨g', cap'', he, ⟨cur, hcur⟩, hgf, hgc⟩ := ownsRow_form hown1 (by omega)
    cases he
    have hgS : g < w.heap.size → (fun k => k = bp ∨ p.stack.ownBlock = some k) g := by
      intro hlt
      rcases hloc with h | h
      · exact Or.inr (by rw [HS.out]; exact h)
      · have : (w.alloc (.cells #[.nilIface, .slice none 0 0, .int .i64 0, .int .i64 0] 121)).heap.size = w.heap.size + 1 := by simp
        omega
    have hmA := grown_mods hgrow
    have hk : Mods (fun k => k = bp ∨ p.stack.ownBlock = some k) w w1 :=
      ((Mods.refl _ w).alloc _).trans (hmA.mono (fun k _ h => Or.inr (by rw [HS.out]; exact h)))
    have hp1 : PsAt w1 bp p := (hp.alloc _).keep hmA (fun h => hne bp h rfl)
    obtain ⟨tail, htl⟩ := id hp1
    have hgbp : g ≠ bp := hcur.ne_of_type htl (by decide)
    have hbpg : bp ≠ g := Ne.symm hgbp
    have c0 : w1.cell? ⟨g, n * 4, none⟩ = some .nilIface := hgc (n * 4) _ (by simp [hlen])
    have c2 : w1.cell? ⟨g, n * 4 + 2, none⟩ = some (.int .i64 0) := hgc (n * 4 + 2) _ (by simp [hlen])
    have c3 : w1.cell? ⟨g, n * 4 + 3, none⟩ = some (.int .i64 0) := hgc (n * 4 + 3) _ (by simp [hlen])
    have g0 := hgf (n * 4)
    have g2 := hgf (n * 4 + 2)
    have g3 := hgf (n * 4 + 3)
    have hgl := hcur.lt
    clear k3 k4 f4 hbp
    have k3 := hp1.lineno
    have k4 := hp1.stack
    have f4 := hp1.fr 4
    have hbp := hp1.lt
    have HL := Lib.hid hlen
    clear hlen htl hgc hgf hgrow
    have w1' : IntKind.i64.wrap (n : Int) = n := IntWalk.i64_in _ (by omega)
    have w2 : (0 : Int) ≤ n := by omega
    have w3 : (n : Int) < (n : Int) + 1 := by omega
    go_wp2_with fail
    go_quiet (fail)
    go_wp2
    go_end0
    refine ⟨rfl, ?_, g, cap', ?_, ?_, fun hlt => (hgS hlt).elim (fun h => absurd h hgbp) (fun h => h)⟩
    · exact mods_add hk _ _ (Or.inl rfl) hgS _ _ _ _
    · exact ps_add hp1 hgbp _ _ _ _ _ _
    · exact row_add HL.out hgbp _ _ _ _ _ hown1
end Go.Proofs.YtdnlfdppjfjncaaGreatDoor
