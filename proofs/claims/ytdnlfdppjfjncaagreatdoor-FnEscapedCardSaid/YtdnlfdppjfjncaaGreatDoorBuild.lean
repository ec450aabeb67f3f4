/- What the builders ask of the state; building a paragraph, and the document. -/
import Derived.Test.YtdnlfdppjfjncaaGreatDoorPara
namespace Go.Proofs.YtdnlfdppjfjncaaGreatDoor
open Go Go.RowKit Go.Proofs

theorem row_cells {w : World} {g cap n : Nat} {l : List Value} {c i : Value} {s e : Int}
    (hown : w.ownsRow 0 121 4 (.slice (some ⟨g, 0, none⟩) (n + 1) cap) (n + 1) (l ++ [c, i, .int .i64 s, .int .i64 e])) :
    w.cell? ⟨g, n * 4, none⟩ = some c ∧ w.cell? ⟨g, n * 4 + 1, none⟩ = some i ∧ w.cell? ⟨g, n * 4 + 2, none⟩ = some (.int .i64 s) ∧ w.cell? ⟨g, n * 4 + 3, none⟩ = some (.int .i64 e) ∧
      (∀ k, w.frozen? ⟨g, k, none⟩ = false) ∧ g < w.heap.size := by
  have hlen : l.length = n * 4 := by have := hown.1; simp at this; omega
  obtain ⟨_, _, he, ⟨cur, hcur⟩, hf, hg⟩ := ownsRow_form hown (by omega)
  cases he
  exact ⟨hg _ _ (by simp [hlen]), hg _ _ (by simp [hlen]), hg _ _ (by simp [hlen]), hg _ _ (by simp [hlen]), hf, hcur.lt⟩

set_option maxHeartbeats 1000000 in
theorem pos_any (bp g n cap : Nat) (p : PSt) (l : List Value) (c i : Value) (s e : Int) (w : World) (hp : PsAt w bp p) (hst : p.stack = .slice (some ⟨g, 0, none⟩) (n + 1) cap) (hn : n ≤ 1000)
    (hown : w.ownsRow 0 121 4 (.slice (some ⟨g, 0, none⟩) (n + 1) cap) (n + 1) (l ++ [c, i, .int .i64 s, .int .i64 e])) :
    Calls Tryz.prog 260 #[.pointer (some ⟨bp, 0, none⟩)] w fun e' w' => e' = .returned (.agg #[.int .i64 s, .int .i64 e]) ∧ Same w w' := by
  obtain ⟨c0, c1, c2, c3, cf, cl⟩ := row_cells hown
  have k4 := hp.stack
  rw [hst] at k4
  clear hst
  have cf2 := cf (n * 4 + 2)
  clear cf
  have w1 : IntKind.i64.wrap (n : Int) = n := IntWalk.i64_in _ (by omega)
  have w2 : (0 : Int) ≤ n := by omega
  have w3 : (n : Int) < (n : Int) + 1 := by omega
  have hbl := hp.lt
  go_enter Tryz.func260, Tryz.ntmps260
  go_wp2_with fail
  go_quiet (fail)
  go_wp2
  exact bodyPost_ret (v := .agg #[.int .i64 s, .int .i64 e]) (by simp [results, Tryz.results260, go_sem]) rfl ⟨rfl, by
    have h1 : Same w ((w.alloc (.cells #[.int .i64 0, .int .i64 0] 108)).drewN nq) := ((Mods.refl _ w).alloc _).drewN nq
    exact (h1.setCell (p := ⟨w.heap.size, 0, none⟩) (fun h => absurd h (Nat.lt_irrefl _)) _).setCell (p := ⟨w.heap.size, 1, none⟩) (fun h => absurd h (Nat.lt_irrefl _)) _⟩

set_option maxHeartbeats 1000000 in
theorem blocks_any (bp g n cap : Nat) (p : PSt) (l : List Value) (c i : Value) (s e : Int) (w : World) (hp : PsAt w bp p) (hst : p.stack = .slice (some ⟨g, 0, none⟩) (n + 1) cap) (hn : n ≤ 1000)
    (hown : w.ownsRow 0 121 4 (.slice (some ⟨g, 0, none⟩) (n + 1) cap) (n + 1) (l ++ [c, i, .int .i64 s, .int .i64 e])) :
    Calls Tryz.prog 259 #[.pointer (some ⟨bp, 0, none⟩)] w fun e' w' => e' = .returned i ∧ ∃ k, w' = w.drewN k := by
  obtain ⟨c0, c1, c2, c3, cf, cl⟩ := row_cells hown
  have k4 := hp.stack
  rw [hst] at k4
  clear hst cf
  have w1 : IntKind.i64.wrap (n : Int) = n := IntWalk.i64_in _ (by omega)
  have w2 : (0 : Int) ≤ n := by omega
  have w3 : (n : Int) < (n : Int) + 1 := by omega
  have hbl := hp.lt
  go_enter Tryz.func259, Tryz.ntmps259
  go_wp2_with fail
  go_quiet (fail)
  go_wp2
  go_ret
  exact ⟨rfl, _, rfl⟩

set_option maxHeartbeats 1000000 in
theorem skipSpace_none (s : ByteArray) (i : Nat) (w : World) (hi : i < s.size) (_hs : s.size ≤ 1000000)
    (h1 : s[i] ≠ 32) (h2 : s[i] ≠ 9) (h3 : s[i] ≠ 10) :
    Calls Tryz.prog 124 #[.string s, .int .i64 i] w fun e w' => e = .returned (.int .i64 i) ∧ w = w' := by
  have e1 : ((s[i].toNat : Int) == 32) = false := beq_eq_false_iff_ne.2 (ne32 h1)
  have e2 : ((s[i].toNat : Int) == 9) = false := beq_eq_false_iff_ne.2 (ne9 h2)
  have e3 : ((s[i].toNat : Int) == 10) = false := beq_eq_false_iff_ne.2 (fun e => h3 (UInt8.toNat_inj.1 (by show _ = 10; omega)))
  clear h1 h2 h3
  go_enter Tryz.func124, Tryz.ntmps124
  go_wp2
  go_loopg [1] 0 (fun g j wr => w = wr ∧ j = .int .i64 i)
  case atStart => exact ⟨rfl, rfl⟩
  case round =>
    obtain ⟨rfl, rfl⟩ := hrel
    go_wp2
    go_ret
    exact ⟨rfl, rfl⟩

set_option maxHeartbeats 1000000 in
theorem parseLinkLabel_no (q : Value) (s : ByteArray) (i : Nat) (w : World) (hi : i < s.size) (_hs : s.size ≤ 1000000) (h1 : s[i] ≠ 91) :
    Calls Tryz.prog 127 #[q, .string s, .int .i64 i] w fun e w' => e = .returned (.tuple #[.string ⟨#[]⟩, .int .i64 0, .bool false]) ∧ w = w' := by
  have e1 : ((s[i].toNat : Int) != 91) = true := bne_iff_ne.2 (fun e => h1 (UInt8.toNat_inj.1 (by show _ = 91; omega)))
  go_enter Tryz.func127, Tryz.ntmps127
  go_wp2
  go_ret3
  exact ⟨rfl, rfl⟩

theorem as_ps_yes (v : Value) (w : World) : (Instr.typeAssert (.iface 116 v) 343 116 false).run Tryz.prog w = .ok v w := by kernel_rfl

set_option maxRecDepth 100000 in
set_option maxHeartbeats 1000000 in
theorem parseLinkRefDef_no (q : Value) (s : ByteArray) (w : World) (h0 : 0 < s.size) (hs : s.size ≤ 1000000) (h1 : s[0] ≠ 32) (h2 : s[0] ≠ 9) (h3 : s[0] ≠ 10) (h4 : s[0] ≠ 91) :
    Calls Tryz.prog 291 #[.iface 116 q, .string s] w fun e w' => e = .returned (.tuple #[.int .i64 0, .bool false]) ∧ w = w' := by
  have hA := as_ps_yes
  go_enter Tryz.func291, Tryz.ntmps291
  go_wp2_with fail
  refine (skipSpace_none s 0 w h0 hs h1 h2 h3).mono ?_
  rintro e w' ⟨rfl, rfl⟩
  go_wp2_with fail
  refine (parseLinkLabel_no q s 0 w h0 hs h4).mono ?_
  rintro e w' ⟨rfl, rfl⟩
  go_wp2
  go_ret2
  exact ⟨rfl, rfl⟩
end Go.Proofs.YtdnlfdppjfjncaaGreatDoor
