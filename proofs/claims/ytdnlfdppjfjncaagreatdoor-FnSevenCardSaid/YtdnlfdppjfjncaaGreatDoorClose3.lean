/- The document is closed; the stack is trimmed to nothing. -/
import Derived.Test.YtdnlfdppjfjncaaGreatDoorClose2
namespace Go.Proofs.YtdnlfdppjfjncaaGreatDoor
open Go Go.RowKit Go.Proofs

/-- What closing the document leaves. -/
structure RootClosed (w w' : World) (bp g n cap : Nat) (p : PSt) (l : List Value) (a : Option Addr) (ni ic : Nat) (ml : Option Nat) (s e : Int) : Prop where
  mods : Mods (fun k => k = bp) w w'
  ex : ∃ rk, w.heap.size ≤ rk ∧ Blk w' rk #[.int .i64 s, .int .i64 e, .slice a ni ic, .map ml] 339 ∧
    PsAt w' bp { p with stack := .slice (some ⟨g, 0, none⟩) 0 cap, root := .pointer (some ⟨rk, 0, none⟩) }

set_option maxRecDepth 100000 in
set_option maxHeartbeats 4000000 in
theorem closeRoot (bp g cap : Nat) (p : PSt) (v a : Option Addr) (ni ic : Nat) (ml : Option Nat) (s e : Int) (w : World) (hp : PsAt w bp p) (hst : p.stack = .slice (some ⟨g, 0, none⟩) 1 cap)
    (hown : w.ownsRow 0 121 4 (.slice (some ⟨g, 0, none⟩) 1 cap) 1 [.iface 98 (.pointer v), .slice a ni ic, .int .i64 s, .int .i64 e]) (hl : p.links = .map ml) :
    Calls Tryz.prog 73 #[.pointer (some ⟨bp, 0, none⟩)] w fun e' w' => ∃ u, e' = .returned u ∧ RootClosed w w' bp g 0 cap p [] a ni ic ml s e := by
  obtain ⟨c0, c1, c2, c3, cf, cl⟩ := row_cells (n := 0) (l := []) hown
  have k4 := hp.stack
  rw [hst] at k4
  have hbl := hp.lt
  have hE := eql_builder_nil
  have hM := m_build_root0
  have w1 : IntKind.i64.wrap (0 : Int) = 0 := rfl
  clear cf
  go_enter Tryz.func73, Tryz.ntmps73
  go_wp2_with fail
  go_quiet (fail)
  go_wp2_with fail
  have hD : Same w (w.drewN nq) := (Mods.refl _ w).drewN nq
  refine (rootBuild_any bp g 0 cap p [] _ a ni ic ml s e _ (w.drewN nq) (hp.same hD) hst (by omega) (ownsRow_keep hown hD (fun _ _ x => x)) hl).mono ?_
  rintro e' wA ⟨rk, rfl, hrk, hmA, hR⟩
  have hpA := hp.same (hD.trans hmA)
  have hsz := hD.size
  have hownA := ownsRow_keep hown (hD.trans hmA) (fun _ _ x => x)
  have hcap : 1 ≤ cap := by
    rcases hownA.2 with ⟨h, _⟩ | ⟨_, _, _, h, _, _, hc, _⟩
    · cases h
    · cases h; exact hc
  clear c0 c1 c2 c3 k4 hbl hE hM
  have k4 := hpA.stack
  have f4 := hpA.fr 4
  have f1 := hpA.fr 1
  have k1 := hpA.root
  have hbl := hpA.lt
  have hL := as_List_no1
  have hDoc := as_doc_yes
  have w5 : (0 : Int) ≤ (cap : Int) := by omega
  rw [hst] at k4
  go_wp2_with fail
  go_region
  go_wp2_with fail
  go_ret
  have hne : rk ≠ bp := by
    obtain ⟨tail, htl⟩ := id hpA
    exact hR.ne_of_type htl (by decide)
  have hm1 : Mods (fun k => k = bp) w wA := (hD.trans hmA).mono (fun _ _ h => absurd h (fun x => x))
  have h1 := PsAt.drew (hpA.set 4 (.slice (some ⟨g, 0, none⟩) 0 cap) { p with stack := .slice (some ⟨g, 0, none⟩) 0 cap } rfl (by decide))
  refine ⟨_, rfl, ?_, rk, by omega, ?_, h1.set 1 _ _ rfl (by decide)⟩
  · exact (((hm1.setCell (p := ⟨bp, 4, none⟩) (fun _ => rfl) _).drew).setCell (p := ⟨bp, 1, none⟩) (fun _ => rfl) _)
  · exact Blk.set_other (a := ⟨bp, 1, none⟩) (Blk.drew (Blk.set_other (a := ⟨bp, 4, none⟩) hR (Ne.symm hne) _)) (Ne.symm hne) _

set_option maxHeartbeats 2000000 in
/-- trimStack closes as many blocks as stand above the depth; P k: k blocks are still to be closed. -/
theorem trimStack_gen (bp d : Nat) (P : Nat → World → Prop) (_hd : d ≤ 1000)
    (h0 : ∀ k w, P k w → k ≤ 1000 ∧ ∃ a cap, w.cell? ⟨bp, 4, none⟩ = some (.slice a (d + k) cap))
    (hc : ∀ k w, P (k + 1) w → Calls Tryz.prog 73 #[.pointer (some ⟨bp, 0, none⟩)] w fun e w' => ∃ u, e = .returned u ∧ P k w')
    (n : Nat) (w : World) (hP : P n w) :
    Calls Tryz.prog 65 #[.pointer (some ⟨bp, 0, none⟩), .int .i64 d] w fun e w' => e = .returned (.tuple #[]) ∧ P 0 w' := by
  obtain ⟨hn, a, cap, k4⟩ := h0 n w hP
  have w1 : ¬ ((d : Int) + n < d) := by omega
  go_enter Tryz.func65, Tryz.ntmps65
  go_wp2_with fail
  go_loopg [] n (fun k wr => P k wr)
  case atStart => exact hP
  case round =>
    clear k4 w1
    obtain ⟨hn', a', cap', k4'⟩ := h0 _ _ hrel
    cases gk with
    | zero =>
      have w2 : ¬ ((d : Int) < d) := by omega
      rw [Nat.add_zero] at k4'
      clear h0 hc
      go_wp2_with fail
      go_end0
      exact ⟨rfl, hrel⟩
    | succ k =>
      have w2 : (d : Int) < d + (k + 1) := by omega
      have hc' := hc k _ hrel
      clear h0 hc
      go_wp2_with fail
      refine hc'.mono ?_
      rintro e w2 ⟨u, rfl, hP2⟩
      go_wp2_with fail
      go_roundg k
      case measure => omega
      case rel => exact hP2
end Go.Proofs.YtdnlfdppjfjncaaGreatDoor
