/- mergePlain and emph change nothing in a list of pieces where no two plain ones stand side by side. -/
import Derived.Test.YtdnlfdppjfjncaaGreatDoorMerge
import Derived.Deep.RegionLaw
namespace Go.Proofs.YtdnlfdppjfjncaaGreatDoor
open Go Go.RowKit Go.Proofs

theorem PcsAt.get {w : World} : ∀ {xs : List Value} {ps : List Pc} (i : Nat), PcsAt w xs ps → i < xs.length → ∃ x pc, xs[i]? = some x ∧ ps[i]? = some pc ∧ PcAt w x pc
  | [], [], i, _, h => absurd h (Nat.not_lt_zero _)
  | x :: _, p :: _, 0, h, _ => ⟨x, p, rfl, rfl, h.1⟩
  | _ :: _, _ :: _, i + 1, h, hi => by
    obtain ⟨x, pc, h1, h2, h3⟩ := PcsAt.get i h.2 (by simpa using hi)
    exact ⟨x, pc, by simpa using h1, by simpa using h2, h3⟩
  | [], _ :: _, _, h, _ => h.elim
  | _ :: _, [], _, h, _ => h.elim

/-- No two plain pieces side by side. -/
def NoPP (ps : List Pc) : Prop := ∀ i s t, ps[i]? = some (.plain s) → ps[i + 1]? = some (.plain t) → False

/-- What stands at one place of the list: the cell, and which piece. -/
theorem piece_at {w : World} {g n cap : Nat} {xs : List Value} {ps : List Pc} (hown : w.ownsRow 0 132 1 (.slice (some ⟨g, 0, none⟩) n cap) n xs) (hx : PcsAt w xs ps) (i : Nat) (hi : i < n) :
    (∃ b s, w.cell? ⟨g, i, none⟩ = some (.iface 156 (.pointer (some ⟨b, 0, none⟩))) ∧ xs[i]? = some (.iface 156 (.pointer (some ⟨b, 0, none⟩))) ∧ ps[i]? = some (.plain s)) ∨
    (∃ b s, w.cell? ⟨g, i, none⟩ = some (.iface 176 (.pointer (some ⟨b, 0, none⟩))) ∧ xs[i]? = some (.iface 176 (.pointer (some ⟨b, 0, none⟩))) ∧ ps[i]? = some (.esc s)) := by
  have hl : xs.length = n := by have := hown.1; omega
  obtain ⟨_, _, he, _, _, hc⟩ := ownsRow_form hown (by omega)
  cases he
  obtain ⟨x, pc, h1, h2, h3⟩ := hx.get i (by omega)
  cases pc with
  | plain s =>
    obtain ⟨b, rfl, _⟩ := h3
    exact Or.inl ⟨b, s, hc i _ h1, h1, h2⟩
  | esc s =>
    obtain ⟨b, rfl, _⟩ := h3
    exact Or.inr ⟨b, s, hc i _ h1, h1, h2⟩

set_option maxRecDepth 100000 in
set_option maxHeartbeats 4000000 in
theorem mergePlain_id (q : Value) (g n cap : Nat) (xs : List Value) (ps : List Pc) (w : World) (hown : w.ownsRow 0 132 1 (.slice (some ⟨g, 0, none⟩) n cap) n xs) (hx : PcsAt w xs ps) (hpp : NoPP ps) (hn : n ≤ 1000000) :
    Calls Tryz.prog 92 #[q, .slice (some ⟨g, 0, none⟩) n cap] w fun e w' => e = .returned (.slice (some ⟨g, 0, none⟩) n cap) ∧ Same w w' := by
  have hcap : n ≤ cap := by
    rcases hown.2 with ⟨h, _⟩ | ⟨_, _, _, h, _, _, hc, _⟩
    · cases h
    · cases h; exact hc
  have c1 : (0 : Int) ≤ cap := by omega
  go_enter Tryz.func92, Tryz.ntmps92
  go_wp2_with fail
  go_loopg [5, 6, 7] (n + 1) (fun m v5 v6 v7 wr => ∃ i : Nat, v7 = .int .i64 i ∧ m = n + 1 - i ∧ i ≤ n ∧ Same w wr ∧
    ((v5 = .slice (some ⟨g, 0, none⟩) i cap ∧ v6 = .int .i64 i ∧ (∀ k, i = k + 1 → ∀ s, ps[k]? ≠ some (.plain s))) ∨ (∃ k s, i = k + 1 ∧ v5 = .slice (some ⟨g, 0, none⟩) k cap ∧ v6 = .int .i64 k ∧ ps[k]? = some (.plain s))))
  case atStart => exact ⟨0, rfl, by omega, by omega, Mods.refl _ _, Or.inl ⟨rfl, rfl, fun k hk => by omega⟩⟩
  case round =>
    obtain ⟨i, rfl, rfl, hi, hm, hor⟩ := hrel
    have hownr := ownsRow_keep hown hm (fun _ _ x => x)
    have hxr := hx.keep hm (fun _ _ _ _ _ x => x)
    have w1 : IntKind.i64.wrap ((i : Int) + 1) = (i : Int) + 1 := IntWalk.i64_in _ (by omega)
    have w2 : (0 : Int) ≤ i := by omega
    have HM := Lib.hid hm
    clear hm
    by_cases hlt : i < n
    · have w3 : (i : Int) < n := by omega
      have w4 : ¬ ((n : Int) ≤ i) := by omega
      rcases piece_at hownr hxr i hlt with ⟨b, s, hc, hxi, hpi⟩ | ⟨b, s, hc, hxi, hpi⟩
      · rcases hor with ⟨rfl, rfl, hno⟩ | ⟨k, t, hik, rfl, rfl, hk⟩
        · clear hno
          go_wp2_with fail
          refine (toPlain_plain _ wr).mono ?_
          rintro e w' ⟨rfl, rfl⟩
          go_wp2_with fail
          go_roundg (n + 1 - (i + 1))
          case measure => omega
          case rel => exact ⟨i + 1, by simp, rfl, by omega, HM.out, Or.inr ⟨i, s, rfl, rfl, rfl, hpi⟩⟩
        · subst hik; exact (hpp k t s hk hpi).elim
      · rcases hor with ⟨rfl, rfl, hno⟩ | ⟨k, t, hik, rfl, rfl, hk⟩
        · clear hno
          go_wp2_with fail
          refine (toPlain_esc _ wr).mono ?_
          rintro e w' ⟨rfl, rfl⟩
          go_wp2_with (at_builtin; refine wl_same_inl rfl (.tmp 40) (.tmp 45) rfl g i n cap xs (hownr.alloc _) hlt _ hxi rfl wr.heap.size 1 rfl rfl ((Blk.newAt _ _ rfl).cell 0) ?_)
          intro wB hmB
          go_wp2_with fail
          go_roundg (n + 1 - (i + 1))
          case measure => omega
          case rel => exact ⟨i + 1, by simp, rfl, by omega, (HM.out.alloc _).trans hmB, Or.inl ⟨rfl, by simp, fun k hk s' hs' => by cases hk; rw [hpi] at hs'; cases hs'⟩⟩
        · obtain ⟨b0, s0, hc0, hx0, hp0⟩ | ⟨b0, s0, hc0, hx0, hp0⟩ := piece_at hownr hxr k (by omega)
          · have v1 : (k : Int) < i := by omega
            have v2 : (0 : Int) ≤ k := by omega
            have v3 : (k : Int) ≤ i := by omega
            have v4 : (i : Int) ≤ cap := by omega
            have v5 : i - k = 1 := by omega
            have hkn : k < n := by omega
            have HI := Lib.hid hik
            clear hik hk
            go_wp2_with fail
            refine (toPlain_esc _ wr).mono ?_
            rintro e w' ⟨rfl, rfl⟩
            go_wp2_with fail
            refine (mergePlain1_one g k _ _ wr hc0).mono ?_
            rintro e w' ⟨rfl, rfl⟩
            go_wp2_with (at_builtin; refine wl_same_inl rfl (.tmp 27) (.tmp 34) rfl g k n cap xs (hownr.alloc _) hkn _ hx0 rfl wr.heap.size 1 rfl rfl ((Blk.newAt _ _ rfl).cell 0) ?_)
            intro wB hmB
            have hmB' := ((Mods.refl (fun _ => False) wr).alloc _).trans hmB
            have hownB := ownsRow_keep hownr hmB' (fun _ _ x => x)
            have hcB : wB.cell? ⟨g, i, none⟩ = some (.iface 176 (.pointer (some ⟨b, 0, none⟩))) := by
              obtain ⟨_, _, he, _, _, hcc⟩ := ownsRow_form hownB (by omega)
              cases he
              exact hcc i _ hxi
            go_wp2_with (at_builtin; refine wl_same_inl rfl (.tmp 40) (.tmp 45) rfl g (k + 1) n cap xs (hownB.alloc _) (by have := HI.out; omega) _ (by rw [← HI.out]; exact hxi) rfl wB.heap.size 1 rfl rfl ((Blk.newAt _ _ rfl).cell 0) ?_)
            intro wC hmC
            go_wp2_with fail
            go_roundg (n + 1 - (i + 1))
            case measure => omega
            case rel => exact ⟨i + 1, by simp, rfl, by omega, ((HM.out.trans hmB').alloc _).trans hmC, Or.inl ⟨by rw [HI.out], by simp, fun k hk s' hs' => by cases hk; rw [hpi] at hs'; cases hs'⟩⟩
          · rw [hk] at hp0; cases hp0
    · have hin : i = n := by omega
      subst hin
      have w3 : ¬ ((i : Int) < i) := by omega
      rcases hor with ⟨rfl, rfl, hno⟩ | ⟨k, t, hik, rfl, rfl, hk⟩
      · clear hno
        go_wp2_with fail
        go_ret
        exact ⟨rfl, HM.out⟩
      · obtain ⟨b0, s0, hc0, hx0, hp0⟩ | ⟨b0, s0, hc0, hx0, hp0⟩ := piece_at hownr hxr k (by omega)
        · have v1 : (k : Int) < i := by omega
          have v2 : (0 : Int) ≤ k := by omega
          have v3 : (k : Int) ≤ i := by omega
          have v4 : (i : Int) ≤ cap := by omega
          have v5 : i - k = 1 := by omega
          have hkn : k < i := by omega
          have HI := Lib.hid hik
          clear hik hk
          go_wp2_with fail
          refine (mergePlain1_one g k _ _ wr hc0).mono ?_
          rintro e w' ⟨rfl, rfl⟩
          go_wp2_with (at_builtin; refine wl_same_inl rfl (.tmp 27) (.tmp 34) rfl g k i cap xs (hownr.alloc _) hkn _ hx0 rfl wr.heap.size 1 rfl rfl ((Blk.newAt _ _ rfl).cell 0) ?_)
          intro wB hmB
          have hmB' := ((Mods.refl (fun _ => False) wr).alloc _).trans hmB
          go_wp2_with fail
          go_ret
          exact ⟨by rw [HI.out]; rfl, HM.out.trans hmB'⟩
        · rw [hk] at hp0; cases hp0
end Go.Proofs.YtdnlfdppjfjncaaGreatDoor
