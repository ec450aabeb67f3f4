/- The document is built and closed; the stack is trimmed to nothing. -/
import Derived.Test.YtdnlfdppjfjncaaGreatDoorClose
import Derived.Deep.RegionWith
namespace Go.Proofs.YtdnlfdppjfjncaaGreatDoor
open Go Go.RowKit Go.Proofs


theorem m_build_root0 (k : Nat) (a : Option Addr) (w : World) : (method (k + 1) 98 (.pointer a) "pub-paratext/pub/rscmarkdown.build").run Tryz.prog w = .ok (247, .pointer a) w := by kernel_rfl
theorem m_pos0 (k : Nat) (a : Addr) (w : World) : (method (k + 1) 116 (.pointer (some a)) "pub-paratext/pub/rscmarkdown.pos").run Tryz.prog w = .ok (260, .pointer (some a)) w := m_pos k a w
theorem as_ps_is (X : Nat) (v : Value) (w : World) : (Instr.typeAssert (.iface 116 v) X 116 false).run Tryz.prog w = .ok v w := by kernel_rfl
theorem as_doc_yes (X : Nat) (v : Value) (w : World) : (Instr.typeAssert (.iface 48 v) X 48 false).run Tryz.prog w = .ok v w := by kernel_rfl
theorem as_List_no1 (X : Nat) (v : Value) (w : World) : (Instr.typeAssert (.iface 48 v) X 111 true).run Tryz.prog w = .ok (.tuple #[.pointer none, .bool false]) w := as_List_no _ _ _ _ (by decide)

set_option maxHeartbeats 2000000 in
theorem rootBuild_any (bp g n cap : Nat) (p : PSt) (l : List Value) (c : Value) (a : Option Addr) (ni ic : Nat) (ml : Option Nat) (s e : Int) (q : Value) (w : World) (hp : PsAt w bp p) (hst : p.stack = .slice (some ⟨g, 0, none⟩) (n + 1) cap) (hn : n ≤ 1000)
    (hown : w.ownsRow 0 121 4 (.slice (some ⟨g, 0, none⟩) (n + 1) cap) (n + 1) (l ++ [c, .slice a ni ic, .int .i64 s, .int .i64 e])) (hl : p.links = .map ml) :
    Calls Tryz.prog 247 #[q, .iface 116 (.pointer (some ⟨bp, 0, none⟩))] w fun e' w' => ∃ rk, e' = .returned (.iface 48 (.pointer (some ⟨rk, 0, none⟩))) ∧ w.heap.size ≤ rk ∧ Same w w' ∧
      Blk w' rk #[.int .i64 s, .int .i64 e, .slice a ni ic, .map ml] 339 := by
  have HP : ∀ W, Same w W → Calls Tryz.prog 260 #[.pointer (some ⟨bp, 0, none⟩)] W fun e' W' => e' = .returned (.agg #[.int .i64 s, .int .i64 e]) ∧ Same w W' ∧ W'.cell? ⟨bp, 2, none⟩ = some (.map ml) := fun W hW =>
    (pos_any bp g n cap p l c (.slice a ni ic) s e W (hp.same hW) hst hn (ownsRow_keep hown hW (fun _ _ x => x))).mono fun _ _ h => ⟨h.1, hW.trans h.2, (hp.same (hW.trans h.2)).links.trans (by rw [hl])⟩
  have HB : ∀ W, Same w W → Calls Tryz.prog 259 #[.pointer (some ⟨bp, 0, none⟩)] W fun e' W' => e' = .returned (.slice a ni ic) ∧ Same w W' ∧ W'.cell? ⟨bp, 2, none⟩ = some (.map ml) := fun W hW =>
    (blocks_any bp g n cap p l c (.slice a ni ic) s e W (hp.same hW) hst hn (ownsRow_keep hown hW (fun _ _ x => x))).mono fun _ _ h => by
      obtain ⟨h1, k, hk⟩ := h
      subst hk
      exact ⟨h1, hW.drewN k, (hp.same (hW.drewN k)).links.trans (by rw [hl])⟩
  have HL := hp.links
  rw [hl] at HL
  have M1 := m_pos0
  have M2 := m_blocks
  have M3 := as_ps_is
  go_enter Tryz.func247, Tryz.ntmps247
  go_wp2_with fail
  have hS0 : Same w w := Mods.refl _ w
  go_region_with (first
    | (go_at_call 260; refine (HP _ (by repeat (first | assumption | apply Mods.drew | apply Mods.drewN | apply Mods.alloc))).mono ?_; rintro e1 w1 ⟨rfl, hS1, HL1⟩)
    | (go_at_call 259; refine (HB _ (by repeat (first | assumption | apply Mods.drew | apply Mods.drewN | apply Mods.alloc))).mono ?_; rintro e2 w2 ⟨rfl, hS2, HL2⟩))
  all_goals
    go_wp2
    go_ret
    exact ⟨_, rfl, hS2.size, hS2.alloc _, Blk.newAt _ _ rfl⟩

end Go.Proofs.YtdnlfdppjfjncaaGreatDoor
