/- Some texts of one proof, put into one file: Law6, LawB, LawC, LawS, Law7, LawS2. -/
import Derived.Shelf.Strings.Builder1
import Derived.Laws.IdiomStrings
import Derived.Test.YtdnlfdppjfjncaaGreatDoorFn7
/- The laws' own functions: escaped (over strings.Builder). -/
namespace Go.Proofs.YtdnlfdppjfjncaaGreatDoor
open Go Go.RowKit Go.Proofs

set_option maxHeartbeats 1000000 in
set_option maxRecDepth 100000 in
theorem copyCheck_used (b : Nat) (w : World) (h0 : w.cell? ⟨b, 0, none⟩ = some (.pointer (some ⟨b, 0, none⟩))) :
    Calls Tryz.prog 54 #[.pointer (some ⟨b, 0, none⟩)] w fun e w' => e = .returned (.tuple #[]) ∧ w = w' := by
  have hj0 : (Tryz.prog.info? 55).isSome = true := by kernel_rfl
  obtain ⟨j, hj⟩ := Option.isSome_iff_exists.1 hj0
  have hq := fun wx : World => Lib.run_neq_ptr_same (P := Tryz.prog) wx ⟨b, 0, none⟩ Tryz.underlying53 hj
  go_enter Tryz.func54, Tryz.ntmps54
  go_wp2
  go_end0
  exact ⟨rfl, rfl⟩

set_option maxHeartbeats 1000000 in
set_option maxRecDepth 100000 in
theorem copyCheck_fresh (b : Nat) (w : World) (h0 : w.cell? ⟨b, 0, none⟩ = some (.pointer none)) (hsh : w.shape? b = some (55, 2)) (hfz : w.frozen? ⟨b, 0, none⟩ = false) :
    Calls Tryz.prog 54 #[.pointer (some ⟨b, 0, none⟩)] w fun e w' => e = .returned (.tuple #[]) ∧ w' = w.setCell ⟨b, 0, none⟩ (.pointer (some ⟨b, 0, none⟩)) := by
  have hj0 : (Tryz.prog.info? 55).map (fun i => i.size) = some 2 := by kernel_rfl
  obtain ⟨j, hj, hjs⟩ := Option.map_eq_some_iff.1 hj0
  have hlies : liesAt Tryz.prog Tryz.prog.depth 55 (2 / Tryz.prog.cellsOf 55) 0 55 1 = true := by kernel_rfl
  go_enter Tryz.func54, Tryz.ntmps54
  go_wp2
  rw [Lib.run_to_unsafe w ⟨b, 0, none⟩ Tryz.underlying53 Tryz.underlying113 hj (by rw [hjs]; decide) hsh (Nat.zero_lt_succ 1)]
  simp only [Result.andThen]
  rw [Oper.upon_value]
  go_wp2
  rw [run_callFunc_extern Tryz.func68 (by kernel_rfl) (by kernel_rfl) (by kernel_rfl) (e := Extern.AbiNoEscape.same) (by kernel_rfl)]
  rw [Lib.run_noEscape]
  simp only [Result.andThen]
  rw [Oper.upon_value]
  go_wp2
  rw [Lib.run_from_unsafe w ⟨b, 0, none⟩ Tryz.underlying113 Tryz.underlying53 hj hsh hlies]
  simp only [Result.andThen]
  rw [Oper.upon_value]
  go_wp2
  go_end0
  exact ⟨rfl, rfl⟩

theorem copyCheck_any (B b : Nat) (bs : List Value) (w : World) (h : Lib.IsBuilder 55 5 B b bs w) :
    Calls Tryz.prog 54 #[.pointer (some ⟨b, 0, none⟩)] w fun e w' => e = .returned (.tuple #[]) ∧ Lib.BuilderAt 55 5 B b (.pointer (some ⟨b, 0, none⟩)) bs w' ∧ Below B w w' := by
  rcases h with h | h
  · refine (copyCheck_fresh b w h.cell0 h.shape h.frozen0).mono ?_
    rintro e w' ⟨rfl, rfl⟩
    exact ⟨rfl, h.used _, (Below.refl B w).setCell (p := ⟨b, 0, none⟩) h.1 _⟩
  · refine (copyCheck_used b w h.cell0).mono ?_
    rintro e w' ⟨rfl, rfl⟩
    exact ⟨rfl, h, Below.refl B _⟩

set_option maxHeartbeats 2000000 in
set_option maxRecDepth 100000 in
theorem builder_byte (B b : Nat) (l : List UInt8) (c : UInt8) (w : World) (h : Lib.IsBuilder 55 5 B b (Lib.byteCells l) w) (hlen : l.length ≤ 100000000) (hBw : B ≤ w.heap.size) :
    Calls Tryz.prog 42 #[.pointer (some ⟨b, 0, none⟩), .int .u8 c.toNat] w fun e w' => e = .returned .nilIface ∧ Lib.IsBuilder 55 5 B b (Lib.byteCells (l ++ [c])) w' ∧ Below B w w' := by
  have hi0 : (Tryz.prog.info? 5).map (fun i => (i.zero, i.size, i.bytes)) = some (some (.int .u8 0), 1, 1) := by kernel_rfl
  obtain ⟨i0, hi, hz⟩ := Option.map_eq_some_iff.1 hi0
  simp only [Prod.mk.injEq] at hz
  obtain ⟨hz0, hz1, hz2⟩ := hz
  have hbl : (Lib.byteCells l).length = l.length := by simp [Lib.byteCells]
  have hlen' : (Lib.byteCells l).length ≤ 100000000 := by omega
  have HBS := Lib.hid (Lib.byteCells_append l [c])
  clear hbl hlen
  generalize hbs : Lib.byteCells l = bs at *
  go_enter Tryz.func42, Tryz.ntmps42
  go_wp2_with (go_at_call 54; refine (copyCheck_any B b bs _ h).mono ?_)
  rintro e w1 ⟨rfl, h1, hb1⟩
  obtain ⟨hB, v, hbk, hown, hne⟩ := h1
  have c0 : w1.cell? ⟨b, 0, none⟩ = some (.pointer (some ⟨b, 0, none⟩)) := by rw [Lib.cell_of_heap hbk]; rfl
  have c1 : w1.cell? ⟨b, 1, none⟩ = some v := by rw [Lib.cell_of_heap hbk]; rfl
  go_wp2_with (at_builtin; refine wpList_append_own _ rfl _ _ 35 rfl B 5 i0 (.int .u8 0) 1 1 Tryz.underlying35 hi hz0 hz1 hz2 rfl (by decide) _ _ _ rfl (hown.alloc _) ⟨w1.heap.size, 0, none⟩ 1 1 [.int .u8 c.toNat] rfl rfl ?c1 ?c2 ?c3 ?c4 ?c5 ?_)
  case c1 =>
    intro j u hj
    match j, hj with
    | 0, hj => simp at hj; subst hj; simp [Addr.add]
  case c2 => intro u hu; simp at hu; subst hu; rfl
  case c3 => unfold maxLen; omega
  case c4 => omega
  case c5 => have := hb1.size; simp; omega
  intro v' w2 hown' hgrow _
  have hlt : b < w1.heap.size := by
    rcases Nat.lt_or_ge b w1.heap.size with h' | h'
    · exact h'
    · simp [Array.getElem?_eq_none h'] at hbk
  have hb2 : w2.heap[b]? = some (.cells #[.pointer (some ⟨b, 0, none⟩), v] 55 (0, 0)) := by
    rw [hgrow.block b (by simp; omega) (fun e => hne e.symm), Lib.alloc_old w1 _ b hlt]
    exact hbk
  have d0 : w2.cell? ⟨b, 0, none⟩ = some (.pointer (some ⟨b, 0, none⟩)) := by rw [Lib.cell_of_heap hb2]; rfl
  have d1 : w2.cell? ⟨b, 1, none⟩ = some v := by rw [Lib.cell_of_heap hb2]; rfl
  have f1 : w2.frozen? ⟨b, 1, none⟩ = false := Lib.frozen_of_heap hb2 1
  obtain ⟨g, cap, rfl⟩ : ∃ g cap, v' = .slice (some ⟨g, 0, none⟩) (bs.length + 1) cap := by
    rcases hown'.2 with ⟨_, h0⟩ | ⟨g, cap, cur, hv, _⟩
    · omega
    · exact ⟨g, cap, hv⟩
  go_wp2
  go_ret
  refine ⟨rfl, ?_, ?_⟩
  · rw [HBS.out]
    exact Or.inr (Lib.BuilderAt.put (T := 55) (e := 5) hB hb2 (bs' := bs ++ [.int .u8 c.toNat]) (by simpa using hown') (by decide))
  · exact ((hb1.alloc (by have := hb1.size; omega) _).grown hgrow (by have := hb1.size; simp; omega) (fun k hk => (hown.lt k hk).1)).setCell (p := ⟨b, 1, none⟩) hB _

theorem slL_take (s : ByteArray) (j : Nat) (h : j < s.size) : slL (s.data.toList.take (j + 1)) = slL (s.data.toList.take j) ++ slB s[j] := by
  rw [List.take_add_one, get_of h]
  simp [slL]

set_option maxHeartbeats 4000000 in
theorem escaped_any (s : ByteArray) (w : World) (hs : s.size ≤ 1000000) :
    Calls Tryz.prog 21 #[.string s] w fun e w' => e = .returned (.string (slT s)) ∧ Same w w' := by
  go_enter Tryz.func21, Tryz.ntmps21
  go_wp2_with fail
  generalize hW : (w.alloc _ : World) = W
  have hm : Below w.heap.size w W := by subst hW; exact (Below.refl _ w).alloc (Nat.le_refl _) _
  have hb : Lib.IsBuilder 55 5 w.heap.size w.heap.size (Lib.byteCells (slL (s.data.toList.take 0))) W := by subst hW; exact Lib.fresh_isBuilder _ _ w
  clear hW
  go_loopg [7] s.size (fun k i wr => ∃ j : Nat, i = .int .i64 j ∧ k = s.size - j ∧ j ≤ s.size ∧ Below w.heap.size w wr ∧ Lib.IsBuilder 55 5 w.heap.size w.heap.size (Lib.byteCells (slL (s.data.toList.take j))) wr)
  case atStart => exact ⟨0, rfl, rfl, Nat.zero_le _, hm, hb⟩
  case round =>
    clear hm hb
    obtain ⟨j, rfl, rfl, hj, hm, hb⟩ := hrel
    have hl := (slL_len (s.data.toList.take j)).2
    have hl2 : (s.data.toList.take j).length ≤ j := List.length_take_le _ _
    by_cases hlt : j < s.size
    · have w1 : (j : Int) < s.size := by omega
      have w2 : (0 : Int) ≤ j := by omega
      have w3 : IntKind.i64.wrap ((j : Int) + 1) = (j : Int) + 1 := IntWalk.i64_in _ (by omega)
      have hsucc := slL_take s j hlt
      have HS := Lib.hid hsucc
      clear hsucc
      by_cases hp : punct s[j] = true
      · have HP : Hid (slB s[j] = [92] ++ [s[j]]) := by show slB _ = _; unfold slB; rw [if_pos hp]; rfl
        have hz := hm.size
        go_wp2_with fail
        refine (spec_IsPunct s[j] wr).mono ?_
        rintro e w' ⟨rfl, rfl⟩
        rw [hp]
        clear hp
        go_wp2_with fail
        refine (builder_byte _ _ _ 92 wr hb (by omega) hz).mono ?_
        rintro e w3 ⟨rfl, hb3, hm3⟩
        have hz3 := (hm.trans hm3).size
        go_wp2_with fail
        refine (builder_byte _ _ _ s[j] w3 hb3 (by simp; omega) hz3).mono ?_
        rintro e w4 ⟨rfl, hb4, hm4⟩
        go_wp2_with fail
        go_roundg (s.size - (j + 1))
        case measure => omega
        case rel => exact ⟨j + 1, rfl, rfl, by omega, (hm.trans hm3).trans hm4, by rw [HS.out, HP.out, ← List.append_assoc]; exact hb4⟩
      · have hp' : punct s[j] = false := by simpa using hp
        have HP : Hid (slB s[j] = [s[j]]) := by show slB _ = _; unfold slB; rw [if_neg hp]
        have hz := hm.size
        go_wp2_with fail
        refine (spec_IsPunct s[j] wr).mono ?_
        rintro e w' ⟨rfl, rfl⟩
        rw [hp']
        clear hp hp'
        go_wp2_with fail
        refine (builder_byte _ _ _ s[j] wr hb (by omega) hz).mono ?_
        rintro e w4 ⟨rfl, hb4, hm4⟩
        go_wp2_with fail
        go_roundg (s.size - (j + 1))
        case measure => omega
        case rel => exact ⟨j + 1, rfl, rfl, by omega, hm.trans hm4, by rw [HS.out, HP.out]; exact hb4⟩
    · have w1 : ¬ ((j : Int) < s.size) := by omega
      have hjs : j = s.size := by omega
      have hz := hm.size
      have hall : s.data.toList.take j = s.data.toList := List.take_of_length_le (by rw [hjs]; exact Nat.le_refl _)
      rw [hall] at hb
      clear hall hl hl2
      go_wp2_with fail
      refine (Tryz.Builder_String_any _ _ _ wr hb hz).mono ?_
      rintro e w4 ⟨rfl, hm4⟩
      go_wp2_with fail
      go_ret
      exact ⟨rfl, Below.mods (S := fun _ => False) (hm.trans hm4) (fun k hk hk2 => absurd hk (by omega))⟩
end Go.Proofs.YtdnlfdppjfjncaaGreatDoor

/- The laws' own functions over bytes: slashed, times, full, ascii, plain. -/
namespace Go.Proofs.YtdnlfdppjfjncaaGreatDoor
open Go Go.RowKit Go.Proofs

/-- append of a byte to a row of the call's own (from block B on). -/
theorem ap_u8 {w : World} {ops : Array Oper} {rest : List Oper} {o : Oper} {a : Act} {Q : Exit → Act → World → Prop} (hgd : o.guard = none) (s x : Operand) (ho : o.op = .call { callee := .builtin .append, args := #[s, x], argTypes := #[35, 35] })
    (B : Nat) (hB : B ≤ w.heap.size) (v : Value) (n : Nat) (xs : List Value) (hs : a.eval s = v) (hown : w.ownsRow B 5 1 v n xs)
    (b c : Nat) (u : Int) (hx : a.eval x = .slice (some ⟨b, 0, none⟩) 1 c) (hu : w.cell? ⟨b, 0, none⟩ = some (.int .u8 u)) (hn : n ≤ 1000000)
    (h : ∀ g cap w', w'.ownsRow B 5 1 (.slice (some ⟨g, 0, none⟩) (n + 1) cap) (n + 1) (xs ++ [.int .u8 u]) → w.grownBy w' v.ownBlock → wpList Tryz.prog ops Q rest (a.put o.dst (.slice (some ⟨g, 0, none⟩) (n + 1) cap)) w') : wpList Tryz.prog ops Q (o :: rest) a w := by
  have hi : (Tryz.prog.info? 5).map (fun i => (i.zero, i.size, i.bytes)) = some (some (.int .u8 0), 1, 1) := by kernel_rfl
  obtain ⟨i0, hi0, hz⟩ := Option.map_eq_some_iff.1 hi
  simp only [Prod.mk.injEq] at hz
  obtain ⟨hz0, hz1, hz2⟩ := hz
  refine wpList_append_lies w hgd s x 35 ho B 5 i0 (.int .u8 0) 1 1 Tryz.underlying35 hi0 hz0 hz1 hz2 rfl (by decide) v n xs hs hown ⟨b, 0, none⟩ 1 c [.int .u8 u] hx rfl ?_ ?_ (by omega) (by unfold maxLen; omega) ?_ hB _ rfl (fun g cap w' h2 h3 _ _ => h g cap w' h2 h3)
  · intro j y hy
    match j, hy with
    | 0, hy => simp at hy; subst hy; simpa [Addr.add_lit] using hu
  · intro y hy; simp at hy; subst hy; rfl
  · omega

theorem grown_below {w W w' : World} {v : Value} {n : Nat} {xs : List Value} (hm : Below w.heap.size w W) (hown : W.ownsRow w.heap.size 5 1 v n xs) (h : W.grownBy w' v.ownBlock) : Below w.heap.size w w' :=
  hm.grown h hm.size (fun k hk => (hown.lt k hk).1)

set_option maxHeartbeats 4000000 in
theorem slashed_any (s : ByteArray) (w : World) (hs : s.size ≤ 400000) :
    Calls Tryz.prog 31 #[.string s] w fun e w' => e = .returned (.string (slT s)) ∧ Same w w' := by
  go_enter Tryz.func31, Tryz.ntmps31
  go_wp2_with fail
  generalize hW : (w.alloc _ : World) = W
  have hm : Below w.heap.size w W := by subst hW; exact (Below.refl _ w).alloc (Nat.le_refl _) _
  have hown : W.ownsRow w.heap.size 5 1 (.slice (some ⟨w.heap.size, 0, none⟩) 0 0) (slL (s.data.toList.take 0)).length (Lib.byteCells (slL (s.data.toList.take 0))) := by
    subst hW; exact World.ownsRow_lit w #[] 0 (Nat.le_refl _) (Nat.zero_le _) rfl
  clear hW
  go_loopg [3, 4] s.size (fun k v i wr => ∃ j g cap : Nat, i = .int .i64 j ∧ k = s.size - j ∧ j ≤ s.size ∧ v = .slice (some ⟨g, 0, none⟩) (slL (s.data.toList.take j)).length cap ∧ Below w.heap.size w wr ∧ wr.ownsRow w.heap.size 5 1 (.slice (some ⟨g, 0, none⟩) (slL (s.data.toList.take j)).length cap) (slL (s.data.toList.take j)).length (Lib.byteCells (slL (s.data.toList.take j))))
  case atStart => exact ⟨0, w.heap.size, 0, rfl, rfl, Nat.zero_le _, rfl, hm, hown⟩
  case round =>
    clear hm hown
    obtain ⟨j, g, cap, rfl, rfl, hj, rfl, hm, hown⟩ := hrel
    have hl := (slL_len (s.data.toList.take j)).2
    have hl2 : (s.data.toList.take j).length ≤ j := List.length_take_le _ _
    have HM := Lib.hid hm
    have hz := hm.size
    by_cases hlt : j < s.size
    · have w1 : (j : Int) < s.size := by omega
      have w2 : (0 : Int) ≤ j := by omega
      have w3 : IntKind.i64.wrap ((j : Int) + 1) = (j : Int) + 1 := IntWalk.i64_in _ (by omega)
      have hsucc := slL_take s j hlt
      have HS := Lib.hid hsucc
      have hn1 : (slL (s.data.toList.take j)).length ≤ 800000 := by omega
      clear hsucc hm hl hl2
      generalize hL : slL (s.data.toList.take j) = L at *
      clear hL
      by_cases hp : punct s[j] = true
      · have HP : Hid (slB s[j] = [92] ++ [s[j]]) := by show slB _ = _; unfold slB; rw [if_pos hp]; rfl
        go_wp2_with fail
        refine (spec_IsPunct s[j] wr).mono ?_
        rintro e w' ⟨rfl, rfl⟩
        rw [hp]
        clear hp
        go_wp2_with (at_builtin; refine ap_u8 rfl _ _ rfl w.heap.size ?c0 _ L.length (Lib.byteCells L) rfl (hown.alloc _) wr.heap.size 1 92 rfl ((Blk.newAt _ _ rfl).cell 0) ?c1 ?_)
        case c0 => simp; omega
        case c1 => omega
        intro g1 cap1 wa hown1 hg1
        have hm1 : Below w.heap.size w wa := grown_below (HM.out.alloc (by omega) _) (hown.alloc _) hg1
        have hz1 := hm1.size
        clear hown hg1
        go_wp2_with (at_builtin; refine ap_u8 rfl _ _ rfl w.heap.size ?c0 _ (L.length + 1) (Lib.byteCells L ++ [.int .u8 92]) rfl (hown1.alloc _) wa.heap.size 1 (s[j].toNat : Int) rfl ((Blk.newAt _ _ rfl).cell 0) ?c1 ?_)
        case c0 => simp; omega
        case c1 => omega
        intro g2 cap2 wb hown2 hg2
        have hm2 : Below w.heap.size w wb := grown_below (hm1.alloc (by omega) _) (hown1.alloc _) hg2
        have he : slL (s.data.toList.take (j + 1)) = L ++ [92] ++ [s[j]] := by rw [HS.out, HP.out, List.append_assoc]
        have hcells : Lib.byteCells L ++ [Value.int .u8 92, Value.int .u8 (s[j].toNat : Int)] = Lib.byteCells (slL (s.data.toList.take (j + 1))) := by rw [he]; simp [Lib.byteCells]
        have hlen : L.length + 1 + 1 = (slL (s.data.toList.take (j + 1))).length := by rw [he]; simp
        rw [hcells] at hown2
        rw [hlen] at hown2 ⊢
        clear hcells hlen he hown1 hg2 hm1
        go_wp2_with fail
        go_roundg (s.size - (j + 1))
        case measure => omega
        case rel => exact ⟨j + 1, g2, cap2, rfl, rfl, by omega, rfl, hm2, hown2⟩
      · have hp' : punct s[j] = false := by simpa using hp
        have HP : Hid (slB s[j] = [s[j]]) := by show slB _ = _; unfold slB; rw [if_neg hp]
        go_wp2_with fail
        refine (spec_IsPunct s[j] wr).mono ?_
        rintro e w' ⟨rfl, rfl⟩
        rw [hp']
        clear hp hp'
        go_wp2_with (at_builtin; refine ap_u8 rfl _ _ rfl w.heap.size ?c0 _ L.length (Lib.byteCells L) rfl (hown.alloc _) wr.heap.size 1 (s[j].toNat : Int) rfl ((Blk.newAt _ _ rfl).cell 0) ?c1 ?_)
        case c0 => simp; omega
        case c1 => omega
        intro g2 cap2 wb hown2 hg2
        have hm2 : Below w.heap.size w wb := grown_below (HM.out.alloc (by omega) _) (hown.alloc _) hg2
        have he : slL (s.data.toList.take (j + 1)) = L ++ [s[j]] := by rw [HS.out, HP.out]
        have hcells : Lib.byteCells L ++ [Value.int .u8 (s[j].toNat : Int)] = Lib.byteCells (slL (s.data.toList.take (j + 1))) := by rw [he]; simp [Lib.byteCells]
        have hlen : L.length + 1 = (slL (s.data.toList.take (j + 1))).length := by rw [he]; simp
        rw [hcells] at hown2
        rw [hlen] at hown2 ⊢
        clear hcells hlen he hown hg2
        go_wp2_with fail
        go_roundg (s.size - (j + 1))
        case measure => omega
        case rel => exact ⟨j + 1, g2, cap2, rfl, rfl, by omega, rfl, hm2, hown2⟩
    · have w1 : ¬ ((j : Int) < s.size) := by omega
      have hjs : j = s.size := by omega
      have hall : s.data.toList.take j = s.data.toList := List.take_of_length_le (by rw [hjs]; exact Nat.le_refl _)
      rw [hall] at hown ⊢
      clear hall hl hl2 hm
      have hcv := run_convert_bytes_back (P := Tryz.prog) wr 35 9 5 ⟨g, 0, none⟩ cap (slL s.data.toList) Tryz.underlying35 Tryz.underlying5 Tryz.underlying9 (fun i hi => by
        have h1 := hown.cellAt i (by omega)
        rw [Addr.add_lit, Nat.zero_add, h1]
        simp [Lib.byteCells, hi])
      go_wp2_with fail
      go_ret
      exact ⟨rfl, Below.mods (S := fun _ => False) HM.out (fun k hk hk2 => absurd hk (by omega))⟩
end Go.Proofs.YtdnlfdppjfjncaaGreatDoor

/- The laws' own functions: times, full, ascii, plain. -/
namespace Go.Proofs.YtdnlfdppjfjncaaGreatDoor
open Go Go.RowKit Go.Proofs

/-- A text n times. -/
def repT (s : ByteArray) (n : Nat) : ByteArray := strL (List.replicate n s.data.toList).flatten

theorem repT_succ (s : ByteArray) (n : Nat) : repT s (n + 1) = repT s n ++ s := by
  unfold repT
  rw [List.replicate_succ', List.flatten_append, ← strL_app]
  have : strL (List.flatten [s.data.toList]) = s := by simp [strL]
  rw [this]
theorem repT_size (s : ByteArray) : ∀ n, (repT s n).size = n * s.size
  | 0 => by simp [repT, strL_size]
  | n + 1 => by rw [repT_succ, ByteArray.size_append, repT_size s n, Nat.succ_mul]

set_option maxHeartbeats 4000000 in
theorem times_any (s : ByteArray) (n : Nat) (w : World) (hs : s.size ≤ 100) (hn : n ≤ 1000) :
    Calls Tryz.prog 23 #[.string s, .int .i64 n] w fun e w' => e = .returned (.string (repT s n)) ∧ w = w' := by
  have h0 : repT s 0 = (⟨#[]⟩ : ByteArray) := rfl
  have H0 := Lib.hid h0
  clear h0
  go_enter Tryz.func23, Tryz.ntmps23
  go_wp2_with fail
  go_loopg [5, 7] n (fun k o i wr => ∃ j : Nat, o = .string (repT s j) ∧ i = .int .i64 j ∧ k = n - j ∧ j ≤ n ∧ w = wr)
  case atStart => exact ⟨0, by rw [H0.out], rfl, rfl, Nat.zero_le _, rfl⟩
  case round =>
    obtain ⟨j, rfl, rfl, rfl, hj, rfl⟩ := hrel
    have hz : (repT s j).size ≤ 100000 := by
      rw [repT_size]
      exact Nat.le_trans (Nat.mul_le_mul hj hs) (by omega)
    by_cases hlt : j < n
    · have w1 : (j : Int) < n := by omega
      have w3 : IntKind.i64.wrap ((j : Int) + 1) = (j : Int) + 1 := IntWalk.i64_in _ (by omega)
      have HS := Lib.hid (repT_succ s j)
      go_wp2_with fail
      go_roundg (n - (j + 1))
      case measure => omega
      case rel => exact ⟨j + 1, by rw [HS.out], rfl, rfl, by omega, rfl⟩
    · have w1 : ¬ ((j : Int) < n) := by omega
      have hjn : j = n := by omega
      subst hjn
      go_wp2_with fail
      go_ret
      exact ⟨rfl, rfl⟩

set_option maxHeartbeats 4000000 in
theorem full_any (s : ByteArray) (w : World) (hs : s.size ≤ 2147483647) :
    Calls Tryz.prog 30 #[.string s] w fun e w' => e = .returned (.bool (fillOk s)) ∧ w = w' := by
  by_cases h : 0 < s.size
  · have hf : fillOk s = ((!((s[0].toNat : Int) == 32)) && (!(((s[s.size - 1]'(by omega)).toNat : Int) == 32))) := by unfold fillOk; rw [dif_pos h]
    have HF := Lib.hid hf
    clear hf
    have e0 : s.toList.isEmpty = false := bs_ne h
    have e0' : (!s.toList.isEmpty) = true := by rw [e0]; rfl
    have w1 : (0 : Int) < s.size := by omega
    have w2 : IntKind.i64.wrap ((s.size : Int) - 1) = (s.size : Int) - 1 := IntWalk.i64_in _ (by omega)
    have w3 : (0 : Int) ≤ (s.size : Int) - 1 := by omega
    have w4 : ((s.size : Int) - 1).toNat = s.size - 1 := by omega
    have w5 : (s.size : Int) - 1 < s.size := by omega
    go_enter Tryz.func30, Tryz.ntmps30
    go_wp2_with fail
    all_goals
      go_ret
      refine ⟨congrArg (fun b => Ending.returned (.bool b)) ?_, rfl⟩
      rw [HF.out]
      first | rfl | simp_all
  · have hf : fillOk s = false := by unfold fillOk; rw [dif_neg h]
    have hz : s = ⟨#[]⟩ := by
      apply ByteArray.ext_getElem
      · show s.size = 0; omega
      · intro i h1 h2; omega
    subst hz
    have HF := Lib.hid hf
    clear hf
    go_enter Tryz.func30, Tryz.ntmps30
    go_wp2_with fail
    go_ret
    exact ⟨by rw [HF.out]; rfl, rfl⟩

set_option maxHeartbeats 4000000 in
theorem ascii_any (s : ByteArray) (w : World) (hs : s.size ≤ 2147483647) :
    Calls Tryz.prog 22 #[.string s, .bool false] w fun e w' => e = .returned (.bool (prFrom s 0)) ∧ w = w' := by
  go_enter Tryz.func22, Tryz.ntmps22
  go_wp2_with fail
  go_loopg [5] s.size (fun k v wr => ∃ i : Nat, v = .int .i64 i ∧ k = s.size - i ∧ i ≤ s.size ∧ prFrom s i = prFrom s 0 ∧ w = wr)
  case atStart => exact ⟨0, rfl, rfl, Nat.zero_le _, rfl, rfl⟩
  case round =>
    obtain ⟨i, rfl, rfl, hi, hp, rfl⟩ := hrel
    have HP := Lib.hid hp
    clear hp
    by_cases hlt : i < s.size
    · have w1 : (i : Int) < s.size := by omega
      have w2 : (0 : Int) ≤ i := by omega
      have w3 : IntKind.i64.wrap ((i : Int) + 1) = (i : Int) + 1 := IntWalk.i64_in _ (by omega)
      have hun : prFrom s i = (32 ≤ s[i].toNat && s[i].toNat ≤ 126 && prFrom s (i + 1)) := by rw [prFrom, dif_pos hlt]
      have HU := Lib.hid hun
      clear hun
      by_cases hc : 32 ≤ s[i].toNat ∧ s[i].toNat ≤ 126
      · have c1 : ¬ ((s[i].toNat : Int) < 32) := by omega
        have c2 : ¬ ((126 : Int) < s[i].toNat) := by omega
        have Hc := Lib.hid hc
        clear hc
        go_wp2_with fail
        go_roundg (s.size - (i + 1))
        case measure => omega
        case rel => exact ⟨i + 1, by simp, rfl, by omega, by rw [← HP.out, HU.out]; simp [Hc.out.1, Hc.out.2], rfl⟩
      · have hf : prFrom s 0 = false := by
          rw [← HP.out, HU.out]
          by_cases h1 : 32 ≤ s[i].toNat
          · have : ¬ s[i].toNat ≤ 126 := fun h => hc ⟨h1, h⟩
            simp [this]
          · simp [h1]
        have HF := Lib.hid hf
        by_cases h1 : (s[i].toNat : Int) < 32
        · clear hc hf
          go_wp2_with fail
          go_ret
          exact ⟨by rw [HF.out]; rfl, rfl⟩
        · have h2 : (126 : Int) < s[i].toNat := by omega
          clear hc hf
          go_wp2_with fail
          go_ret
          exact ⟨by rw [HF.out]; rfl, rfl⟩
    · have hin : i = s.size := by omega
      have w1 : ¬ ((i : Int) < s.size) := by omega
      have ht : prFrom s 0 = true := by rw [← HP.out, hin, prFrom, dif_neg (Nat.lt_irrefl _)]
      have HT := Lib.hid ht
      clear ht
      go_wp2_with fail
      go_ret
      exact ⟨by rw [HT.out]; rfl, rfl⟩

theorem plain_any (w : World) :
    Calls Tryz.prog 25 #[] w fun e w' => e = .returned (.agg #[.bool false, .bool false, .bool false, .bool false, .bool false, .bool false, .bool false, .bool false, .bool false, .bool false]) ∧ Same w w' := by
  go_enter Tryz.func25, Tryz.ntmps25
  go_wp2_with fail
  refine bodyPost_ret (v := .agg #[.bool false, .bool false, .bool false, .bool false, .bool false, .bool false, .bool false, .bool false, .bool false, .bool false]) (by simp [results, Tryz.results25, go_sem]) rfl ⟨rfl, ?_⟩
  exact (Mods.refl _ w).alloc _
end Go.Proofs.YtdnlfdppjfjncaaGreatDoor

/- The plain law of FnSeven, and the law's walk. -/
namespace Go.Proofs.YtdnlfdppjfjncaaGreatDoor
open Go Go.RowKit Go.Proofs

theorem html_of (s : ByteArray) (w : World) (hs : OneLine s) (he : Escd s 0) (hl : ((scan s 0 0).flatMap outPc).length ≤ 9000000) :
    Calls Tryz.prog 17 #[.agg #[.bool false, .bool false, .bool false, .bool false, .bool false, .bool false, .bool false, .bool false, .bool false, .bool false], .string s] w fun e w' => e = .returned (.string (strL (pOpen ++ (scan s 0 0).flatMap outPc ++ pClose))) ∧ Same w w' := by
  have hsm := hs.small
  refine (impl_HTML s w hs (scan s 0 0) (plan_escd s (by omega) he) ?_ ?_ (scan_no_auto s _ 0 0 rfl)).mono ?_
  · intro i
    have h1 : ((scan s 0 0).take i).flatMap outPc ++ ((scan s 0 0).drop i).flatMap outPc = (scan s 0 0).flatMap outPc := by
      rw [← List.flatMap_append, List.take_append_drop]
    have h2 := congrArg List.length h1
    rw [List.length_append] at h2
    have h3 : pOpen.length = 3 := rfl
    simp only [List.nil_append, List.length_append]
    omega
  · intro u hu
    have := plan_sizes (by omega) he u hu
    omega
  · rintro e w' ⟨rfl, hm⟩
    exact ⟨rfl, hm⟩

theorem dull_92 {c : UInt8} (h : dull c = true) : c ≠ 92 := by rintro rfl; revert h; decide

theorem escd_dull (s : ByteArray) : ∀ (pre r : List UInt8) (k : Nat), (∀ c ∈ pre, dull c = true) → from_ s k = pre ++ r → Escd s (k + pre.length) → Escd s k
  | [], _, k, _, _, h => h
  | c :: pre, r, k, hd, hf, h => by
    obtain ⟨h1, e1, h2⟩ := from_cons hf
    rw [Escd, dif_pos h1]
    exact Or.inl ⟨by rw [e1]; exact hd c List.mem_cons_self, escd_dull s pre r (k + 1) (fun x hx => hd x (List.mem_cons_of_mem _ hx)) h2 (by rw [List.length_cons] at h; rwa [show k + 1 + pre.length = k + (pre.length + 1) by omega])⟩

theorem scan_dull (s : ByteArray) (e : Nat) : ∀ (pre r : List UInt8) (k : Nat), (∀ c ∈ pre, dull c = true) → from_ s k = pre ++ r → scan s k e = scan s (k + pre.length) e
  | [], _, k, _, _ => rfl
  | c :: pre, r, k, hd, hf => by
    obtain ⟨h1, e1, h2⟩ := from_cons hf
    have h92 : s[k] ≠ 92 := by rw [e1]; exact dull_92 (hd c List.mem_cons_self)
    rw [scan, dif_pos h1, if_neg h92, scan_dull s e pre r (k + 1) (fun x hx => hd x (List.mem_cons_of_mem _ hx)) h2, List.length_cons, show k + 1 + pre.length = k + (pre.length + 1) by omega]

def marks (n : Nat) : List UInt8 := List.replicate n 35 ++ [32]
theorem marks_len (n : Nat) : (marks n).length = n + 1 := by simp [marks]
theorem marks_dull (n : Nat) : ∀ c ∈ marks n, dull c = true := by
  intro c hc
  simp only [marks, List.mem_append, List.mem_replicate, List.mem_singleton] at hc
  rcases hc with ⟨_, rfl⟩ | rfl <;> decide
theorem marks_esc (n : Nat) : (marks n).flatMap escB = marks n := by
  have : ∀ m, (List.replicate m (35 : UInt8)).flatMap escB = List.replicate m 35 := by
    intro m
    induction m with
    | zero => rfl
    | succ m ih => rw [List.replicate_succ, List.flatMap_cons, ih]; rfl
  unfold marks
  rw [List.flatMap_append, this]
  rfl

def sevenT (n : Nat) (t : ByteArray) : ByteArray := strL (marks n ++ slL t.data.toList)
theorem sevenT_list (n : Nat) (t : ByteArray) : (sevenT n t).data.toList = marks n ++ slL t.data.toList := by simp [sevenT, strL]
theorem sevenT_size (n : Nat) (t : ByteArray) : (sevenT n t).size = n + 1 + (slT t).size := by
  have : (slT t).size = (slL t.data.toList).length := by show (slL t.data.toList).toArray.size = _; simp
  rw [this, sevenT, strL_size, List.length_append, marks_len]

theorem from_app {s : ByteArray} {a b : List UInt8} (h : s.data.toList = a ++ b) : from_ s a.length = b := by
  unfold from_
  rw [h, List.drop_append_of_le_length (Nat.le_refl _), List.drop_length, List.nil_append]

theorem sevenT_line (n : Nat) (t : ByteArray) (hn : 7 ≤ n) (hn2 : n ≤ 1000) (hp : prFrom t 0 = true) (hf : fillOk t = true) (hs : t.size ≤ 400000) : OneLine (sevenT n t) := by
  obtain ⟨h0, hf1, hf2⟩ := fill_first hf
  have hO := oneLine_sl t hp hf hs
  have hsz := sevenT_size n t
  have hs2 := slT_size t
  have hpos : 0 < (sevenT n t).size := by omega
  have hl := sevenT_list n t
  have hget : ∀ i (hi : i < (sevenT n t).size), i < n → (sevenT n t)[i] = 35 := by
    intro i hi hin
    have hg := get_of hi
    rw [hl, List.getElem?_append_left (by rw [marks_len]; omega)] at hg
    unfold marks at hg
    rw [List.getElem?_append_left (by simpa using hin), List.getElem?_replicate, if_pos hin] at hg
    exact (Option.some.inj hg).symm
  have htail : ∀ i (hi : i < (sevenT n t).size) (h2 : n + 1 ≤ i), (sevenT n t)[i] = (slT t)[i - (n + 1)]'(by omega) := by
    intro i hi h2
    have hg := get_of hi
    rw [hl, List.getElem?_append_right (by rw [marks_len]; omega), marks_len, ← slT_list] at hg
    have hg2 := get_of (s := slT t) (i := i - (n + 1)) (by omega)
    rw [hg2] at hg
    exact (Option.some.inj hg).symm
  have hmid : ∀ i (hi : i < (sevenT n t).size), i = n → (sevenT n t)[i] = 32 := by
    intro i hi hin
    have hg := get_of hi
    rw [hl, List.getElem?_append_left (by rw [marks_len]; omega)] at hg
    unfold marks at hg
    rw [List.getElem?_append_right (by simp; omega)] at hg
    subst hin
    simp at hg
    exact hg.symm
  have hn' : ∀ k : UInt8, k ≠ 35 → k ≠ 32 → (∀ i (hi : i < (slT t).size), (slT t)[i] ≠ k) → ∀ i (hi : i < (sevenT n t).size), (sevenT n t)[i] ≠ k := by
    intro k h35 h32 h i hi
    rcases Nat.lt_trichotomy i n with h1 | h1 | h1
    · rw [hget i hi h1]; exact h35.symm
    · rw [hmid i hi h1]; exact h32.symm
    · rw [htail i hi h1]; exact h _ _
  have hd35 : ∀ i, i < n → at0 (sevenT n t) i = 35 := fun i hi => by rw [at0_eq (by omega), hget i (by omega) hi]
  have hp3 : p3 (sevenT n t) 0 = 0 := by
    unfold p3 lead
    rw [dif_pos hpos, if_neg (by rw [hget 0 hpos (by omega)]; decide)]
  refine ⟨hpos, by omega, ?_, ?_, hn' 0 (by decide) (by decide) hO.no0, hn' 10 (by decide) (by decide) hO.no10, hn' 13 (by decide) (by decide) hO.no13, ?_, hn' 9 (by decide) (by decide) hO.no9, ?_⟩
  · rw [hget 0 hpos (by omega)]; rfl
  · rw [htail _ (by omega) (by omega)]
    have := hO.last
    simpa only [show (sevenT n t).size - 1 - (n + 1) = (slT t).size - 1 by omega] using this
  · rw [hget 0 hpos (by omega)]; decide
  · right
    intro u hu
    rw [hp3, Nat.zero_add]
    exact hd35 u (by omega)

theorem sevenT_escd (n : Nat) (t : ByteArray) (hp : prFrom t 0 = true) : Escd (sevenT n t) 0 := by
  have hl := sevenT_list n t
  have hsz := sevenT_size n t
  refine escd_dull _ (marks n) (slL t.data.toList) 0 (marks_dull n) (by rw [from_zero, hl]) ?_
  rw [Nat.zero_add]
  exact escd_sl _ t.data.toList _ (by rw [marks_len]; omega) (pr_list hp) (from_app hl)

theorem sevenT_scan (n : Nat) (t : ByteArray) (hp : prFrom t 0 = true) : (scan (sevenT n t) 0 0).flatMap outPc = marks n ++ t.data.toList.flatMap escB := by
  have hl := sevenT_list n t
  have hsz := sevenT_size n t
  rw [scan_dull (sevenT n t) 0 (marks n) (slL t.data.toList) 0 (marks_dull n) (by rw [from_zero, hl]), Nat.zero_add,
    scan_sl _ t.data.toList _ 0 (Nat.zero_le _) (by rw [marks_len]; omega) (pr_list hp) (from_app hl), ext_list, hl, List.drop_zero, Nat.sub_zero, List.take_left', marks_esc]
  rfl
end Go.Proofs.YtdnlfdppjfjncaaGreatDoor

/- FnEscaped answers true. -/
namespace Go.Proofs.YtdnlfdppjfjncaaGreatDoor
open Go Go.RowKit Go.Proofs

theorem paraT_app (t : ByteArray) : (⟨#[60, 112, 62]⟩ : ByteArray) ++ strL (t.data.toList.flatMap escB) ++ (⟨#[60, 47, 112, 62, 10]⟩ : ByteArray) = paraT (htmlT t) := by
  apply ByteArray.ext
  simp [strL, paraT, htmlT, pOpen, pClose]

set_option maxHeartbeats 4000000 in
theorem law_escaped (s : ByteArray) (w : World) :
    Calls Tryz.prog 4 #[.string s] w fun e w' => e = .returned (.bool true) ∧ Same w w' := by
  by_cases hbig : 2147483647 < s.size
  · have w0 : (2147483647 : Int) < s.size := by omega
    go_enter Tryz.func4, Tryz.ntmps4
    go_wp2_with fail
    go_ret
    exact ⟨rfl, Mods.refl _ _⟩
  · have w0 : ¬ (2147483647 : Int) < s.size := by omega
    by_cases hp : (decide (s.size ≤ 200) && prFrom s 0) = true
    · have hs : s.size ≤ 200 := by simp at hp; exact hp.1
      have hpr : prFrom s 0 = true := by simp at hp; exact hp.2
      by_cases hf : fillOk s = true
      · have hlen := escB_len s.data.toList
        have hsz := strL_size (s.data.toList.flatMap escB)
        have e1 : s.data.toList.length = s.size := rfl
        have hb : (strL (s.data.toList.flatMap escB)).size ≤ 1200 := by omega
        clear hlen hsz e1
        have HPT := Lib.hid (paraT_app s)
        go_enter Tryz.func4, Tryz.ntmps4
        go_wp2_with fail
        refine (printable_any s 200 w (by omega)).mono ?_
        rintro e w' ⟨rfl, rfl⟩
        rw [hp]
        go_wp2_with fail
        refine (filled_any s w (by omega)).mono ?_
        rintro e w' ⟨rfl, rfl⟩
        rw [hf]
        go_wp2_with fail
        refine (escaped_any s w (by omega)).mono ?_
        rintro e w1 ⟨rfl, hm1⟩
        go_wp2_with fail
        refine (escaped_html s w1 hpr hf (by omega)).mono ?_
        rintro e w2 ⟨rfl, hm2⟩
        go_wp2_with fail
        refine (EscapeHTML_any s w2 (by omega)).mono ?_
        rintro e w' ⟨rfl, rfl⟩
        clear hp hf hpr
        go_wp2_with fail
        go_ret
        refine ⟨congrArg (fun b => Ending.returned (.bool b)) ?_, hm1.trans hm2⟩
        rw [HPT.out]
        simp
      · have hf' : fillOk s = false := by simpa using hf
        go_enter Tryz.func4, Tryz.ntmps4
        go_wp2_with fail
        refine (printable_any s 200 w (by omega)).mono ?_
        rintro e w' ⟨rfl, rfl⟩
        rw [hp]
        go_wp2_with fail
        refine (filled_any s w (by omega)).mono ?_
        rintro e w' ⟨rfl, rfl⟩
        rw [hf']
        go_wp2_with fail
        go_ret
        exact ⟨rfl, Mods.refl _ _⟩
    · have hp' : (decide (s.size ≤ 200) && prFrom s 0) = false := by simpa using hp
      go_enter Tryz.func4, Tryz.ntmps4
      go_wp2_with fail
      refine (printable_any s 200 w (by omega)).mono ?_
      rintro e w' ⟨rfl, rfl⟩
      rw [hp']
      go_wp2_with fail
      go_ret
      exact ⟨rfl, Mods.refl _ _⟩
end Go.Proofs.YtdnlfdppjfjncaaGreatDoor

/- FnSeven answers true. -/
namespace Go.Proofs.YtdnlfdppjfjncaaGreatDoor
open Go Go.RowKit Go.Proofs

theorem seven_text (n : Nat) (t : ByteArray) : repT ⟨#[35]⟩ n ++ (⟨#[32]⟩ : ByteArray) ++ slT t = sevenT n t := by
  have h : ∀ n, (List.replicate n [(35 : UInt8)]).flatten = List.replicate n 35 := by
    intro n
    induction n with
    | zero => rfl
    | succ n ih => rw [List.replicate_succ, List.flatten_cons, ih]; rfl
  apply ByteArray.ext
  simp [repT, sevenT, strL, slT, marks, h]

theorem seven_want (n : Nat) (t : ByteArray) : (⟨#[60, 112, 62]⟩ : ByteArray) ++ repT ⟨#[35]⟩ n ++ (⟨#[32]⟩ : ByteArray) ++ strL (t.data.toList.flatMap escB) ++ (⟨#[60, 47, 112, 62, 10]⟩ : ByteArray) = strL (pOpen ++ (marks n ++ t.data.toList.flatMap escB) ++ pClose) := by
  have h : ∀ n, (List.replicate n [(35 : UInt8)]).flatten = List.replicate n 35 := by
    intro n
    induction n with
    | zero => rfl
    | succ n ih => rw [List.replicate_succ, List.flatten_cons, ih]; rfl
  apply ByteArray.ext
  simp [repT, strL, marks, h, pOpen, pClose]

set_option maxRecDepth 100000 in
set_option maxHeartbeats 4000000 in
theorem law_seven (m : Nat) (hm : m < 256) (s : ByteArray) (w : World) :
    Calls Tryz.prog 11 #[.int .u8 m, .string s] w fun e w' => e = .returned (.bool true) ∧ Same w w' := by
  by_cases hbig : 2147483647 < s.size
  · have w0 : (2147483647 : Int) < s.size := by omega
    go_enter Tryz.func11, Tryz.ntmps11
    go_wp2_with fail
    go_ret
    exact ⟨rfl, Mods.refl _ _⟩
  · have w0 : ¬ (2147483647 : Int) < s.size := by omega
    by_cases hf : fillOk s = true
    · by_cases hpr : prFrom s 0 = true
      · by_cases h2000 : 2000 < s.size
        · have w2 : (2000 : Int) < s.size := by omega
          go_enter Tryz.func11, Tryz.ntmps11
          go_wp2_with fail
          refine (full_any s w (by omega)).mono ?_
          rintro e w' ⟨rfl, rfl⟩
          rw [hf]
          go_wp2_with fail
          refine (ascii_any s w (by omega)).mono ?_
          rintro e w' ⟨rfl, rfl⟩
          rw [hpr]
          go_wp2_with fail
          go_ret
          exact ⟨rfl, Mods.refl _ _⟩
        · have w2 : ¬ (2000 : Int) < s.size := by omega
          have hlen := escB_len s.data.toList
          have hsz := strL_size (s.data.toList.flatMap escB)
          have e1 : s.data.toList.length = s.size := rfl
          have hb : (strL (s.data.toList.flatMap escB)).size ≤ 12000 := by omega
          have hsl : (slT s).size ≤ 4000 := by have := slT_size s; omega
          obtain ⟨n, hn⟩ : ∃ n : Nat, n = 7 + m % 20 := ⟨_, rfl⟩
          have hm1 : (7 : Int) + (m : Int) % 20 = (n : Int) := by omega
          have hn7 : 7 ≤ n := by omega
          have hn27 : n ≤ 26 := by omega
          have hr0 := repT_size ⟨#[35]⟩ n
          have hr : (repT ⟨#[35]⟩ n).size ≤ 26 := by
            rw [hr0]
            show n * 1 ≤ 26
            omega
          have HT := Lib.hid (seven_text n s)
          have HWn := Lib.hid (seven_want n s)
          clear hn
          clear hlen hsz e1 hr0
          go_enter Tryz.func11, Tryz.ntmps11
          go_wp2_with fail
          refine (full_any s w (by omega)).mono ?_
          rintro e w' ⟨rfl, rfl⟩
          rw [hf]
          go_wp2_with fail
          refine (ascii_any s w (by omega)).mono ?_
          rintro e w' ⟨rfl, rfl⟩
          rw [hpr]
          go_wp2_with fail
          refine (times_any ⟨#[35]⟩ n w (by decide) (by omega)).mono ?_
          rintro e w' ⟨rfl, rfl⟩
          go_wp2_with fail
          refine (plain_any w).mono ?_
          rintro e w1 ⟨rfl, hm1'⟩
          go_wp2_with fail
          refine (slashed_any s w1 (by omega)).mono ?_
          rintro e w2 ⟨rfl, hm2⟩
          have hT := HT.out
          go_wp2_with fail
          have hsc := sevenT_scan n s hpr
          refine (html_of (sevenT n s) w2 (sevenT_line n s hn7 (by omega) hpr hf (by omega)) (sevenT_escd n s hpr) ?_).mono ?_
          · rw [hsc, List.length_append, marks_len]
            have := escB_len s.data.toList
            have e1 : s.data.toList.length = s.size := rfl
            omega
          rw [hsc]
          rintro e w3 ⟨rfl, hm3⟩
          go_wp2_with fail
          refine (EscapeHTML_any s w3 (by omega)).mono ?_
          rintro e w' ⟨rfl, rfl⟩
          clear hpr hf hm1 hT hsc
          go_wp2_with fail
          go_ret
          refine ⟨congrArg (fun b => Ending.returned (.bool b)) ?_, (hm1'.trans hm2).trans hm3⟩
          rw [HWn.out]
          simp
      · have hpr' : prFrom s 0 = false := by simpa using hpr
        go_enter Tryz.func11, Tryz.ntmps11
        go_wp2_with fail
        refine (full_any s w (by omega)).mono ?_
        rintro e w' ⟨rfl, rfl⟩
        rw [hf]
        go_wp2_with fail
        refine (ascii_any s w (by omega)).mono ?_
        rintro e w' ⟨rfl, rfl⟩
        rw [hpr']
        go_wp2_with fail
        go_ret
        exact ⟨rfl, Mods.refl _ _⟩
    · have hf' : fillOk s = false := by simpa using hf
      go_enter Tryz.func11, Tryz.ntmps11
      go_wp2_with fail
      refine (full_any s w (by omega)).mono ?_
      rintro e w' ⟨rfl, rfl⟩
      rw [hf']
      go_wp2_with fail
      go_ret
      exact ⟨rfl, Mods.refl _ _⟩
end Go.Proofs.YtdnlfdppjfjncaaGreatDoor
