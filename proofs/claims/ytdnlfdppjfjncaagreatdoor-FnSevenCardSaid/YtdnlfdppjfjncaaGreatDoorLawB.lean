/- The laws' own functions over bytes: slashed, times, full, ascii, plain. -/
import Derived.Test.YtdnlfdppjfjncaaGreatDoorLaw6
import Derived.Laws.IdiomStrings
namespace Go.Proofs.YtdnlfdppjfjncaaGreatDoor
open Go Go.RowKit Go.Proofs

/-- append of a byte to a row of the call's own (from block B on). -/
theorem ap_u8 {w : World} {ops : Array Oper} {rest : List Oper} {o : Oper} {a : Act} {Q : Exit → Act → World → Prop} (hgd : o.guard = none) (s x : Operand) (ho : o.op = .call { callee := .builtin .append, args := #[s, x], argTypes := #[35, 35] })
    (B : Nat) (hB : B ≤ w.heap.size) (v : Value) (n : Nat) (xs : List Value) (hs : a.eval s = v) (hown : w.ownsRow B 5 1 v n xs)
    (b c : Nat) (u : Int) (hx : a.eval x = .slice (some ⟨b, 0, none⟩) 1 c) (hu : w.cell? ⟨b, 0, none⟩ = some (.int .u8 u)) (hn : n ≤ 1000000)
    (h : ∀ g cap w', w'.ownsRow B 5 1 (.slice (some ⟨g, 0, none⟩) (n + 1) cap) (n + 1) (xs ++ [.int .u8 u]) → w.grownBy w' v.ownBlock → wpList Tryz.prog ops Q rest (a.put o.dst (.slice (some ⟨g, 0, none⟩) (n + 1) cap)) w') : wpList Tryz.prog ops Q (o :: rest) a w := by
  have hi : (Tryz.prog.info? 5).map (fun i => (i.zero, i.size, i.bytes)) = some (some (.int .u8 0), 1, 1) := by kernel_rfl
  obtain ⟨i0, hi0, hz⟩ := Option.map_eq_some_iff.1 hi
  simp only [Prod.mk.injEq] at hz
  obtain ⟨hz0, hz1, hz2⟩ := hz
  refine wpList_append_lies w hgd s x 35 ho B 5 i0 (.int .u8 0) 1 1 Tryz.underlying35 hi0 hz0 hz1 hz2 rfl (by decide) v n xs hs hown ⟨b, 0, none⟩ 1 c [.int .u8 u] hx rfl ?_ ?_ (by omega) (by unfold maxLen; omega) ?_ hB _ rfl (fun g cap w' h2 h3 _ _ => h g cap w' h2 h3)
  · intro j y hy
    match j, hy with
    | 0, hy => simp at hy; subst hy; simpa [Addr.add_lit] using hu
  · intro y hy; simp at hy; subst hy; rfl
  · omega

theorem grown_below {w W w' : World} {v : Value} {n : Nat} {xs : List Value} (hm : Below w.heap.size w W) (hown : W.ownsRow w.heap.size 5 1 v n xs) (h : W.grownBy w' v.ownBlock) : Below w.heap.size w w' :=
  hm.grown h hm.size (fun k hk => (hown.lt k hk).1)

set_option maxHeartbeats 4000000 in
theorem slashed_any (s : ByteArray) (w : World) (hs : s.size ≤ 400000) :
    Calls Tryz.prog 31 #[.string s] w fun e w' => e = .returned (.string (slT s)) ∧ Same w w' := by
  go_enter Tryz.func31, Tryz.ntmps31
  go_wp2_with fail
  generalize hW : (w.alloc _ : World) = W
  have hm : Below w.heap.size w W := by subst hW; exact (Below.refl _ w).alloc (Nat.le_refl _) _
  have hown : W.ownsRow w.heap.size 5 1 (.slice (some ⟨w.heap.size, 0, none⟩) 0 0) (slL (s.data.toList.take 0)).length (Lib.byteCells (slL (s.data.toList.take 0))) := by
    subst hW; exact World.ownsRow_lit w #[] 0 (Nat.le_refl _) (Nat.zero_le _) rfl
  clear hW
  go_loopg [3, 4] s.size (fun k v i wr => ∃ j g cap : Nat, i = .int .i64 j ∧ k = s.size - j ∧ j ≤ s.size ∧ v = .slice (some ⟨g, 0, none⟩) (slL (s.data.toList.take j)).length cap ∧ Below w.heap.size w wr ∧ wr.ownsRow w.heap.size 5 1 (.slice (some ⟨g, 0, none⟩) (slL (s.data.toList.take j)).length cap) (slL (s.data.toList.take j)).length (Lib.byteCells (slL (s.data.toList.take j))))
  case atStart => exact ⟨0, w.heap.size, 0, rfl, rfl, Nat.zero_le _, rfl, hm, hown⟩
  case round =>
    clear hm hown
    obtain ⟨j, g, cap, rfl, rfl, hj, rfl, hm, hown⟩ := hrel
    have hl := (slL_len (s.data.toList.take j)).2
    have hl2 : (s.data.toList.take j).length ≤ j := List.length_take_le _ _
    have HM := Lib.hid hm
    have hz := hm.size
    by_cases hlt : j < s.size
    · have w1 : (j : Int) < s.size := by omega
      have w2 : (0 : Int) ≤ j := by omega
      have w3 : IntKind.i64.wrap ((j : Int) + 1) = (j : Int) + 1 := IntWalk.i64_in _ (by omega)
      have hsucc := slL_take s j hlt
      have HS := Lib.hid hsucc
      have hn1 : (slL (s.data.toList.take j)).length ≤ 800000 := by omega
      clear hsucc hm hl hl2
      generalize hL : slL (s.data.toList.take j) = L at *
      clear hL
      by_cases hp : punct s[j] = true
      · have HP : Hid (slB s[j] = [92] ++ [s[j]]) := by show slB _ = _; unfold slB; rw [if_pos hp]; rfl
        go_wp2_with fail
        refine (spec_IsPunct s[j] wr).mono ?_
        rintro e w' ⟨rfl, rfl⟩
        rw [hp]
        clear hp
        go_wp2_with (at_builtin; refine ap_u8 rfl _ _ rfl w.heap.size ?c0 _ L.length (Lib.byteCells L) rfl (hown.alloc _) wr.heap.size 1 92 rfl ((Blk.newAt _ _ rfl).cell 0) ?c1 ?_)
        case c0 => simp; omega
        case c1 => omega
        intro g1 cap1 wa hown1 hg1
        have hm1 : Below w.heap.size w wa := grown_below (HM.out.alloc (by omega) _) (hown.alloc _) hg1
        have hz1 := hm1.size
        clear hown hg1
        go_wp2_with (at_builtin; refine ap_u8 rfl _ _ rfl w.heap.size ?c0 _ (L.length + 1) (Lib.byteCells L ++ [.int .u8 92]) rfl (hown1.alloc _) wa.heap.size 1 (s[j].toNat : Int) rfl ((Blk.newAt _ _ rfl).cell 0) ?c1 ?_)
        case c0 => simp; omega
        case c1 => omega
        intro g2 cap2 wb hown2 hg2
        have hm2 : Below w.heap.size w wb := grown_below (hm1.alloc (by omega) _) (hown1.alloc _) hg2
        have he : slL (s.data.toList.take (j + 1)) = L ++ [92] ++ [s[j]] := by rw [HS.out, HP.out, List.append_assoc]
        have hcells : Lib.byteCells L ++ [Value.int .u8 92, Value.int .u8 (s[j].toNat : Int)] = Lib.byteCells (slL (s.data.toList.take (j + 1))) := by rw [he]; simp [Lib.byteCells]
        have hlen : L.length + 1 + 1 = (slL (s.data.toList.take (j + 1))).length := by rw [he]; simp
        rw [hcells] at hown2
        rw [hlen] at hown2 ⊢
        clear hcells hlen he hown1 hg2 hm1
        go_wp2_with fail
        go_roundg (s.size - (j + 1))
        case measure => omega
        case rel => exact ⟨j + 1, g2, cap2, rfl, rfl, by omega, rfl, hm2, hown2⟩
      · have hp' : punct s[j] = false := by simpa using hp
        have HP : Hid (slB s[j] = [s[j]]) := by show slB _ = _; unfold slB; rw [if_neg hp]
        go_wp2_with fail
        refine (spec_IsPunct s[j] wr).mono ?_
        rintro e w' ⟨rfl, rfl⟩
        rw [hp']
        clear hp hp'
        go_wp2_with (at_builtin; refine ap_u8 rfl _ _ rfl w.heap.size ?c0 _ L.length (Lib.byteCells L) rfl (hown.alloc _) wr.heap.size 1 (s[j].toNat : Int) rfl ((Blk.newAt _ _ rfl).cell 0) ?c1 ?_)
        case c0 => simp; omega
        case c1 => omega
        intro g2 cap2 wb hown2 hg2
        have hm2 : Below w.heap.size w wb := grown_below (HM.out.alloc (by omega) _) (hown.alloc _) hg2
        have he : slL (s.data.toList.take (j + 1)) = L ++ [s[j]] := by rw [HS.out, HP.out]
        have hcells : Lib.byteCells L ++ [Value.int .u8 (s[j].toNat : Int)] = Lib.byteCells (slL (s.data.toList.take (j + 1))) := by rw [he]; simp [Lib.byteCells]
        have hlen : L.length + 1 = (slL (s.data.toList.take (j + 1))).length := by rw [he]; simp
        rw [hcells] at hown2
        rw [hlen] at hown2 ⊢
        clear hcells hlen he hown hg2
        go_wp2_with fail
        go_roundg (s.size - (j + 1))
        case measure => omega
        case rel => exact ⟨j + 1, g2, cap2, rfl, rfl, by omega, rfl, hm2, hown2⟩
    · have w1 : ¬ ((j : Int) < s.size) := by omega
      have hjs : j = s.size := by omega
      have hall : s.data.toList.take j = s.data.toList := List.take_of_length_le (by rw [hjs]; exact Nat.le_refl _)
      rw [hall] at hown ⊢
      clear hall hl hl2 hm
      have hcv := run_convert_bytes_back (P := Tryz.prog) wr 35 9 5 ⟨g, 0, none⟩ cap (slL s.data.toList) Tryz.underlying35 Tryz.underlying5 Tryz.underlying9 (fun i hi => by
        have h1 := hown.cellAt i (by omega)
        rw [Addr.add_lit, Nat.zero_add, h1]
        simp [Lib.byteCells, hi])
      go_wp2_with fail
      go_ret
      exact ⟨rfl, Below.mods (S := fun _ => False) HM.out (fun k hk hk2 => absurd hk (by omega))⟩
end Go.Proofs.YtdnlfdppjfjncaaGreatDoor
