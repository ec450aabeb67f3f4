/- Some texts of one proof, put into one file: LawB, Auto4, Auto5, Auto6, Ltr0, Auto7. -/
import Derived.Laws.IdiomStrings
import Derived.ScopeJumps
import Derived.Test.YtdnlfdppjfjncaaGreatDoorAu4
import Derived.Test.YtdnlfdppjfjncaaGreatDoorAu8
import Derived.Test.YtdnlfdppjfjncaaGreatDoorAu9
import Derived.Test.YtdnlfdppjfjncaaGreatDoorAu10
/- The laws' own functions over bytes: slashed, times, full, ascii, plain. -/
namespace Go.Proofs.YtdnlfdppjfjncaaGreatDoor
open Go Go.RowKit Go.Proofs

/-- append of a byte to a row of the call's own (from block B on). -/
theorem ap_u8 {w : World} {ops : Array Oper} {rest : List Oper} {o : Oper} {a : Act} {Q : Exit → Act → World → Prop} (hgd : o.guard = none) (s x : Operand) (ho : o.op = .call { callee := .builtin .append, args := #[s, x], argTypes := #[35, 35] })
    (B : Nat) (hB : B ≤ w.heap.size) (v : Value) (n : Nat) (xs : List Value) (hs : a.eval s = v) (hown : w.ownsRow B 5 1 v n xs)
    (b c : Nat) (u : Int) (hx : a.eval x = .slice (some ⟨b, 0, none⟩) 1 c) (hu : w.cell? ⟨b, 0, none⟩ = some (.int .u8 u)) (hn : n ≤ 1000000)
    (h : ∀ g cap w', w'.ownsRow B 5 1 (.slice (some ⟨g, 0, none⟩) (n + 1) cap) (n + 1) (xs ++ [.int .u8 u]) → w.grownBy w' v.ownBlock → wpList Tryz.prog ops Q rest (a.put o.dst (.slice (some ⟨g, 0, none⟩) (n + 1) cap)) w') : wpList Tryz.prog ops Q (o :: rest) a w := by
  have hi : (Tryz.prog.info? 5).map (fun i => (i.zero, i.size, i.bytes)) = some (some (.int .u8 0), 1, 1) := by kernel_rfl
  obtain ⟨i0, hi0, hz⟩ := Option.map_eq_some_iff.1 hi
  simp only [Prod.mk.injEq] at hz
  obtain ⟨hz0, hz1, hz2⟩ := hz
  refine wpList_append_lies w hgd s x 35 ho B 5 i0 (.int .u8 0) 1 1 Tryz.underlying35 hi0 hz0 hz1 hz2 rfl (by decide) v n xs hs hown ⟨b, 0, none⟩ 1 c [.int .u8 u] hx rfl ?_ ?_ (by omega) (by unfold maxLen; omega) ?_ hB _ rfl (fun g cap w' h2 h3 _ _ => h g cap w' h2 h3)
  · intro j y hy
    match j, hy with
    | 0, hy => simp at hy; subst hy; simpa [Addr.add_lit] using hu
  · intro y hy; simp at hy; subst hy; rfl
  · omega

theorem grown_below {w W w' : World} {v : Value} {n : Nat} {xs : List Value} (hm : Below w.heap.size w W) (hown : W.ownsRow w.heap.size 5 1 v n xs) (h : W.grownBy w' v.ownBlock) : Below w.heap.size w w' :=
  hm.grown h hm.size (fun k hk => (hown.lt k hk).1)

set_option maxHeartbeats 4000000 in
theorem slashed_any (s : ByteArray) (w : World) (hs : s.size ≤ 400000) :
    Calls Tryz.prog 31 #[.string s] w fun e w' => e = .returned (.string (slT s)) ∧ Same w w' := by
  go_enter Tryz.func31, Tryz.ntmps31
  go_wp2_with fail
  generalize hW : (w.alloc _ : World) = W
  have hm : Below w.heap.size w W := by subst hW; exact (Below.refl _ w).alloc (Nat.le_refl _) _
  have hown : W.ownsRow w.heap.size 5 1 (.slice (some ⟨w.heap.size, 0, none⟩) 0 0) (slL (s.data.toList.take 0)).length (Lib.byteCells (slL (s.data.toList.take 0))) := by
    subst hW; exact World.ownsRow_lit w #[] 0 (Nat.le_refl _) (Nat.zero_le _) rfl
  clear hW
  go_loopg [3, 4] s.size (fun k v i wr => ∃ j g cap : Nat, i = .int .i64 j ∧ k = s.size - j ∧ j ≤ s.size ∧ v = .slice (some ⟨g, 0, none⟩) (slL (s.data.toList.take j)).length cap ∧ Below w.heap.size w wr ∧ wr.ownsRow w.heap.size 5 1 (.slice (some ⟨g, 0, none⟩) (slL (s.data.toList.take j)).length cap) (slL (s.data.toList.take j)).length (Lib.byteCells (slL (s.data.toList.take j))))
  case atStart => exact ⟨0, w.heap.size, 0, rfl, rfl, Nat.zero_le _, rfl, hm, hown⟩
  case round =>
    clear hm hown
    obtain ⟨j, g, cap, rfl, rfl, hj, rfl, hm, hown⟩ := hrel
    have hl := (slL_len (s.data.toList.take j)).2
    have hl2 : (s.data.toList.take j).length ≤ j := List.length_take_le _ _
    have HM := Lib.hid hm
    have hz := hm.size
    by_cases hlt : j < s.size
    · have w1 : (j : Int) < s.size := by omega
      have w2 : (0 : Int) ≤ j := by omega
      have w3 : IntKind.i64.wrap ((j : Int) + 1) = (j : Int) + 1 := IntWalk.i64_in _ (by omega)
      have hsucc := slL_take s j hlt
      have HS := Lib.hid hsucc
      have hn1 : (slL (s.data.toList.take j)).length ≤ 800000 := by omega
      clear hsucc hm hl hl2
      generalize hL : slL (s.data.toList.take j) = L at *
      clear hL
      by_cases hp : punct s[j] = true
      · have HP : Hid (slB s[j] = [92] ++ [s[j]]) := by show slB _ = _; unfold slB; rw [if_pos hp]; rfl
        go_wp2_with fail
        refine (spec_IsPunct s[j] wr).mono ?_
        rintro e w' ⟨rfl, rfl⟩
        rw [hp]
        clear hp
        go_wp2_with (at_builtin; refine ap_u8 rfl _ _ rfl w.heap.size ?c0 _ L.length (Lib.byteCells L) rfl (hown.alloc _) wr.heap.size 1 92 rfl ((Blk.newAt _ _ rfl).cell 0) ?c1 ?_)
        case c0 => simp; omega
        case c1 => omega
        intro g1 cap1 wa hown1 hg1
        have hm1 : Below w.heap.size w wa := grown_below (HM.out.alloc (by omega) _) (hown.alloc _) hg1
        have hz1 := hm1.size
        clear hown hg1
        go_wp2_with (at_builtin; refine ap_u8 rfl _ _ rfl w.heap.size ?c0 _ (L.length + 1) (Lib.byteCells L ++ [.int .u8 92]) rfl (hown1.alloc _) wa.heap.size 1 (s[j].toNat : Int) rfl ((Blk.newAt _ _ rfl).cell 0) ?c1 ?_)
        case c0 => simp; omega
        case c1 => omega
        intro g2 cap2 wb hown2 hg2
        have hm2 : Below w.heap.size w wb := grown_below (hm1.alloc (by omega) _) (hown1.alloc _) hg2
        have he : slL (s.data.toList.take (j + 1)) = L ++ [92] ++ [s[j]] := by rw [HS.out, HP.out, List.append_assoc]
        have hcells : Lib.byteCells L ++ [Value.int .u8 92, Value.int .u8 (s[j].toNat : Int)] = Lib.byteCells (slL (s.data.toList.take (j + 1))) := by rw [he]; simp [Lib.byteCells]
        have hlen : L.length + 1 + 1 = (slL (s.data.toList.take (j + 1))).length := by rw [he]; simp
        rw [hcells] at hown2
        rw [hlen] at hown2 ⊢
        clear hcells hlen he hown1 hg2 hm1
        go_wp2_with fail
        go_roundg (s.size - (j + 1))
        case measure => omega
        case rel => exact ⟨j + 1, g2, cap2, rfl, rfl, by omega, rfl, hm2, hown2⟩
      · have hp' : punct s[j] = false := by simpa using hp
        have HP : Hid (slB s[j] = [s[j]]) := by show slB _ = _; unfold slB; rw [if_neg hp]
        go_wp2_with fail
        refine (spec_IsPunct s[j] wr).mono ?_
        rintro e w' ⟨rfl, rfl⟩
        rw [hp']
        clear hp hp'
        go_wp2_with (at_builtin; refine ap_u8 rfl _ _ rfl w.heap.size ?c0 _ L.length (Lib.byteCells L) rfl (hown.alloc _) wr.heap.size 1 (s[j].toNat : Int) rfl ((Blk.newAt _ _ rfl).cell 0) ?c1 ?_)
        case c0 => simp; omega
        case c1 => omega
        intro g2 cap2 wb hown2 hg2
        have hm2 : Below w.heap.size w wb := grown_below (HM.out.alloc (by omega) _) (hown.alloc _) hg2
        have he : slL (s.data.toList.take (j + 1)) = L ++ [s[j]] := by rw [HS.out, HP.out]
        have hcells : Lib.byteCells L ++ [Value.int .u8 (s[j].toNat : Int)] = Lib.byteCells (slL (s.data.toList.take (j + 1))) := by rw [he]; simp [Lib.byteCells]
        have hlen : L.length + 1 = (slL (s.data.toList.take (j + 1))).length := by rw [he]; simp
        rw [hcells] at hown2
        rw [hlen] at hown2 ⊢
        clear hcells hlen he hown hg2
        go_wp2_with fail
        go_roundg (s.size - (j + 1))
        case measure => omega
        case rel => exact ⟨j + 1, g2, cap2, rfl, rfl, by omega, rfl, hm2, hown2⟩
    · have w1 : ¬ ((j : Int) < s.size) := by omega
      have hjs : j = s.size := by omega
      have hall : s.data.toList.take j = s.data.toList := List.take_of_length_le (by rw [hjs]; exact Nat.le_refl _)
      rw [hall] at hown ⊢
      clear hall hl hl2 hm
      have hcv := run_convert_bytes_back (P := Tryz.prog) wr 35 9 5 ⟨g, 0, none⟩ cap (slL s.data.toList) Tryz.underlying35 Tryz.underlying5 Tryz.underlying9 (fun i hi => by
        have h1 := hown.cellAt i (by omega)
        rw [Addr.add_lit, Nat.zero_add, h1]
        simp [Lib.byteCells, hi])
      go_wp2_with fail
      go_ret
      exact ⟨rfl, Below.mods (S := fun _ => False) HM.out (fun k hk hk2 => absurd hk (by omega))⟩
end Go.Proofs.YtdnlfdppjfjncaaGreatDoor

/- A line that begins with `<scheme:` begins no block of HTML. -/
namespace Go.Proofs.YtdnlfdppjfjncaaGreatDoor
open Go Go.RowKit Go.Proofs

/-- A scope that is left, or jumped in once, forward. -/
theorem wp_scope_label {P : Program} {c rest : Code} {a : Act} {w : World} {Q : Exit → Act → World → Prop} (l : Nat) (hf : findLabel c l = some rest)
    (first : ∀ J : Act → World → Prop, (∀ a w, rest.wp P (Exit.noGoto Q) a w → J a w) → c.wp P (Exit.jump l J Q) a w) : (Code.scope c).wp P Q a w := by
  refine wp_scope_jumps l (fun a w => rest.wp P (Exit.noGoto Q) a w) (fun _ _ => 0) hf (first _ (fun _ _ h => h)) (fun a w h => ?_)
  intro b k cs
  obtain ⟨e, a1, w1, hq, harr⟩ := h b k cs
  refine ⟨e, a1, w1, ?_, harr⟩
  cases e <;> first | exact hq | exact hq.elim

theorem hasPrefix_no (s p : ByteArray) (w : World) (hs : s.size ≤ 100000000) (hp : p.size ≤ 100000000) (h : ¬ (p.size ≤ s.size ∧ s.extract 0 p.size = p)) :
    Calls Tryz.prog 45 #[.string s, .string p] w fun e w' => e = .returned (.bool false) ∧ w = w' := by
  refine (hasPrefix_any s p w hs hp).mono ?_
  rintro e w' ⟨bb, rfl, rfl, hb⟩
  cases bb with
  | true => exact absurd (hb.1 rfl) h
  | false => exact ⟨rfl, rfl⟩

theorem sch_prefix {s p : ByteArray} {m : Nat} (hS : Sch s m) (h1 : 1 < p.size) (h2 : p[1] = 33 ∨ p[1] = 63) : ¬ (p.size ≤ s.size ∧ s.extract 0 p.size = p) := by
  rintro ⟨h3, h4⟩
  have hl := hS.ltr 1 (by omega) (by omega) hS.m1
  have h5 : s[1]'(by omega) = p[1] := by
    have h6 : (s.extract 0 p.size)[1]'(by rw [h4]; exact h1) = p[1] := by simp only [h4]
    rw [← h6, ByteArray.getElem_extract]
  rw [h5] at hl
  unfold Ltr at hl
  rcases h2 with h | h <;> · rw [h] at hl; revert hl; decide

theorem sch_p3 {s : ByteArray} {m : Nat} (hS : Sch s m) : p3 s 0 = 0 := by
  have h := hS.lt
  unfold p3
  rw [lead]
  simp [hS.open_ (by omega)]

set_option maxRecDepth 100000 in
set_option maxHeartbeats 8000000 in
theorem startHTML_sch (bp g cap : Nat) (q : PSt) (T : Nat) (v : Value) (b : Nat) (text : ByteArray) (m : Nat) (nl : Int) (w : World) (hS : Sch text m) (h : NoPara w bp g 0 cap q T v) (hT : Txt text) (hL : LineAt w b 0 text nl) :
    Calls Tryz.prog 150 #[.pointer (some ⟨bp, 0, none⟩), .pointer (some ⟨b, 0, none⟩)] w fun e w' => e = .returned (.bool false) ∧ Mods (fun k => k = bp) w w' ∧ CornerAt w' bp q := by
  obtain ⟨h0, h1, h2, h3, h4, hf0, hf1, hf2, hf3, hf4, hbl⟩ := hL.facts
  have hp3 := sch_p3 hS
  have hs1 := hS.lt
  have hs2 := hS.m1
  have hs3 := hS.small
  have hat : at0 text (p3 text 0) = 60 := by rw [hp3, at0_eq (by omega)]; exact hS.open_ (by omega)
  have hx := ext_all text
  have n1 := sch_prefix (p := ⟨#[60, 33, 45, 45]⟩) hS (by decide) (Or.inl rfl)
  have n2 := sch_prefix (p := ⟨#[60, 63]⟩) hS (by decide) (Or.inr rfl)
  have n3 := sch_prefix (p := ⟨#[60, 33, 91, 67, 68, 65, 84, 65, 91]⟩) hS (by decide) (Or.inl rfl)
  have n4 := sch_prefix (p := ⟨#[60, 33]⟩) hS (by decide) (Or.inl rfl)
  have HS := Lib.hid hS
  have HN := Lib.hid h
  have HAT := Lib.hid hat
  have H3 := Lib.hid hp3
  have HX := Lib.hid hx
  clear hS h hat hp3 hx
  go_enter Tryz.func150, Tryz.ntmps150
  go_wp2
  refine wp_scope_label 0 (by rfl) ?_
  intro J hJ
  go_wp2_with fail
  generalize hW : (w.alloc _ : World) = W
  have hm0 : Same w W := by subst hW; exact (Mods.refl _ w).alloc _
  have hl : LineAt W (w.heap.size) 0 text nl := by subst hW; exact Blk.newAt _ _ rfl
  clear hW h0 h1 h2 h3 h4 hf0 hf1 hf2 hf3 hf4 hbl hL
  refine (trimSpace_03 _ text 0 nl W (Nat.zero_le _) hT hl).mono ?_
  rintro e w1 ⟨rfl, hm1, hl1⟩
  rw [H3.out] at hl1
  have hk : Same w w1 := hm0.then hm1 (by intro b hb; omega)
  clear hl hm0 hm1
  go_wp2_with fail
  refine (peek_any _ _ _ _ _ hT.size hl1).mono ?_
  rintro e w2 ⟨rfl, n, rfl⟩
  have hat0 : at0 text 0 = 60 := by have := HAT.out; rwa [H3.out] at this
  rw [hat0]
  have hl2 := Same.blk ((Mods.refl (fun _ => False) w1).drewN n) hl1
  have hk2 := hk.drewN n
  generalize w1.drewN n = w2 at *
  clear hl1 hk hat0 w1
  go_wp2_with fail
  refine (lineString_any _ 0 text nl w2 hs3 (Nat.zero_le _) hl2).mono ?_
  rintro e w3 ⟨rfl, n', rfl⟩
  have hk3 := hk2.drewN n'
  generalize w2.drewN n' = w3 at *
  rw [HX.out]
  clear hl2 hk2 w2
  go_wp2_with fail
  generalize hV : (w3.alloc _ : World) = V
  have hkV : Same w V := by subst hV; exact hk3.alloc _
  have hend : V.cell? ⟨w3.heap.size, 0, none⟩ = some (.string ⟨#[]⟩) := by subst hV; exact (Blk.newAt _ _ rfl).cell 0
  clear hV hk3
  generalize w3.heap.size = eb at *
  clear w3
  refine (hasPrefix_no text _ V (by omega) (by decide) n1).mono ?_
  rintro e w' ⟨rfl, rfl⟩
  go_wp2_with fail
  refine (hasPrefix_no text _ V (by omega) (by decide) n2).mono ?_
  rintro e w' ⟨rfl, rfl⟩
  go_wp2_with fail
  refine (hasPrefix_no text _ V (by omega) (by decide) n3).mono ?_
  rintro e w' ⟨rfl, rfl⟩
  go_wp2_with fail
  refine (hasPrefix_no text _ V (by omega) (by decide) n4).mono ?_
  rintro e w' ⟨rfl, rfl⟩
  clear n1 n2 n3 n4
  have v1 : (1 : Int) < text.size := by omega
  have hl1 := HS.out.ltr 1 (by omega) (by omega) hs2
  have d1 : ((text[1].toNat : Int) == 47) = false := beq_eq_false_iff_ne.2 (by rcases hl1 with h | h <;> omega)
  have d2 : ((text[1].toNat : Int) != 47) = true := bne_iff_ne.2 (by rcases hl1 with h | h <;> omega)
  clear hl1
  have hi8 : (Tryz.prog.info? 5).map (fun i => (i.zero, i.size, i.bytes)) = some (some (.int .u8 0), 1, 1) := by kernel_rfl
  obtain ⟨i0, hi0, hz⟩ := Option.map_eq_some_iff.1 hi8
  simp only [Prod.mk.injEq] at hz
  obtain ⟨hz0, hz1, hz2⟩ := hz
  obtain ⟨X, hmk, hown, hgr⟩ := run_makeSlice_owned (P := Tryz.prog) (w := V) V.heap.size 35 5 i0 (.int .u8 0) 1 Tryz.underlying35 hi0 hz0 hz1 .i64 .i64 16 (by omega) (by omega) (by unfold maxLen; omega) (Nat.le_refl _)
  have hmk' : (Instr.makeSlice 35 (.int .i64 0) (.int .i64 16)).run Tryz.prog V = .ok (.slice (some ⟨V.heap.size, 0, none⟩) 0 16) X := hmk
  have hmX : Below V.heap.size V X := (Below.refl _ V).grown hgr (Nat.le_refl _) (fun k hk => by cases hk)
  clear hmk hi8 hi0 hz0 hz1 hz2 hgr i0
  go_wp2_with fail
  clear hmk'
  go_loopg [9, 10, 11] 17 (fun k vi vb vc wr => ∃ i n g' cap' : Nat, ∃ xs, vi = .int .i64 i ∧ vb = .slice (some ⟨g', 0, none⟩) n cap' ∧ k = 17 - n ∧ i = n + 1 ∧ n ≤ 16 ∧ i ≤ m ∧ Below V.heap.size V wr ∧ wr.ownsRow V.heap.size 5 1 (.slice (some ⟨g', 0, none⟩) n cap') n xs)
  case atStart => exact ⟨1, 0, _, 16, _, rfl, rfl, rfl, rfl, by omega, by omega, hmX, hown⟩
  case round =>
    clear hmX hown
    obtain ⟨i, n, g', cap', xs, rfl, rfl, hk, hin, hn, him, hmB, hown⟩ := hrel
    have HK := Lib.hid hk
    have HIN := Lib.hid hin
    clear hk
    have hit : i < text.size := by omega
    have u1 : (i : Int) < text.size := by omega
    have u2 : (0 : Int) ≤ i := by omega
    have u3 : IntKind.i64.wrap ((i : Int) + 1) = (i : Int) + 1 := IntWalk.i64_in _ (by omega)
    by_cases hgo : n < 16 ∧ i < m
    · have u4 : (n : Int) < 16 := by omega
      have hl := HS.out.ltr i hit (by omega) hgo.2
      have hz := hmB.size
      have HLT := Lib.hid hgo.2
      clear hgo hin
      rcases hl with hl | hl
      · have c1 : (65 : Int) ≤ text[i].toNat := by omega
        have c2 : (text[i].toNat : Int) ≤ 90 := by omega
        have c3 : IntKind.u8.wrap ((text[i].toNat : Int) + 32) = (text[i].toNat : Int) + 32 := IntWalk.u8_in _ (by omega)
        have c4 : (97 : Int) ≤ (text[i].toNat : Int) + 32 := by omega
        have c5 : (text[i].toNat : Int) + 32 ≤ 122 := by omega
        clear hl
        go_wp2_with (at_builtin; refine ap_u8 rfl _ _ rfl V.heap.size ?c0 _ n xs rfl (hown.alloc _) wr.heap.size 1 _ rfl ((Blk.newAt _ _ rfl).cell 0) ?c1 ?_)
        case c0 => first | omega | (simp; omega)
        case c1 => omega
        intro g2 cap2 wb hown2 hg2
        have hm2 : Below V.heap.size V wb := grown_below (hmB.alloc (by omega) _) (hown.alloc _) hg2
        clear hown hg2
        go_wp2_with fail
        go_roundg (17 - (n + 1))
        case measure => have := HK.out; omega
        case rel => exact ⟨i + 1, n + 1, g2, cap2, _, by simp, rfl, rfl, by have := HIN.out; omega, by omega, HLT.out, hm2, hown2⟩
      · have c1 : (65 : Int) ≤ text[i].toNat := by omega
        have c2 : ¬ (text[i].toNat : Int) ≤ 90 := by omega
        have c4 : (97 : Int) ≤ (text[i].toNat : Int) := by omega
        have c5 : (text[i].toNat : Int) ≤ 122 := by omega
        clear hl
        go_wp2_with (at_builtin; refine ap_u8 rfl _ _ rfl V.heap.size ?c0 _ n xs rfl (hown.alloc _) wr.heap.size 1 _ rfl ((Blk.newAt _ _ rfl).cell 0) ?c1 ?_)
        case c0 => first | omega | (simp; omega)
        case c1 => omega
        intro g2 cap2 wb hown2 hg2
        have hm2 : Below V.heap.size V wb := grown_below (hmB.alloc (by omega) _) (hown.alloc _) hg2
        clear hown hg2
        go_wp2_with fail
        go_roundg (17 - (n + 1))
        case measure => have := HK.out; omega
        case rel => exact ⟨i + 1, n + 1, g2, cap2, _, by simp, rfl, rfl, by have := HIN.out; omega, by omega, HLT.out, hm2, hown2⟩
    · have hkW : Same w wr := (hkV.trans (Below.mods (S := fun _ => False) hmB (fun k hk hk2 => absurd hk (by omega))))
      have hNP := HN.out.same hkW
      have hpW := hNP.at_
      have hch : Ltr text[i] ∨ text[i] = 58 := by
        by_cases h : i < m
        · exact Or.inl (HS.out.ltr i hit (by omega) h)
        · obtain rfl : i = m := by omega
          exact Or.inr (HS.out.colon hit)
      have hch2 : text[i].toNat ≠ 32 ∧ text[i].toNat ≠ 9 ∧ text[i].toNat ≠ 62 ∧ text[i].toNat ≠ 47 := by
        rcases hch with (h | h) | h
        · omega
        · omega
        · rw [h]; decide
      have e1 : ((text[i].toNat : Int) == 32) = false := beq_eq_false_iff_ne.2 (by omega)
      have e2 : ((text[i].toNat : Int) == 9) = false := beq_eq_false_iff_ne.2 (by omega)
      have e3 : ((text[i].toNat : Int) == 62) = false := beq_eq_false_iff_ne.2 (by omega)
      have e4 : ((text[i].toNat : Int) == 47) = false := beq_eq_false_iff_ne.2 (by omega)
      have e5 : ¬ ((text.size : Int) ≤ i) := by omega
      have HP := Lib.hid (para_other bp g 0 cap q T v wr hpW hNP.stack (by omega) hNP.top hNP.other)
      clear hch hch2 hNP hend hown
      by_cases h16 : n < 16
      · have hc : text[i] = 58 := by
          obtain rfl : i = m := by omega
          exact HS.out.colon hit
        have u4 : (n : Int) < 16 := by omega
        clear h16 hgo hin
        go_wp2_with fail
        apply wp_goto
        refine ⟨rfl, hJ _ _ ?_⟩
        clear hJ
        go_wp2_with fail
        all_goals
          refine HP.out.mono ?_
          rintro e w5 ⟨rfl, kk, rfl⟩
          have hk5 := hkW.drewN kk
          have hp5 : PsAt (wr.drewN kk) bp q := hpW.same ((Mods.refl (fun _ => False) wr).drewN kk)
          generalize wr.drewN kk = w5 at *
          go_wp2_with fail
          refine (openTag_no bp q text m w5 HS.out hp5).mono ?_
          rintro e w6 ⟨rfl, hm6, hC⟩
          have HC := Lib.hid hC
          clear hC hp5
          go_wp2_with fail
          refine (closingTag_no _ text m w6 HS.out).mono ?_
          rintro e w' ⟨rfl, rfl⟩
          go_wp2_with fail
          try rw [Exit.noGoto_ret]
          go_ret
          exact ⟨rfl, (hk5.mono (fun _ _ h => absurd h (fun x => x))).trans hm6, HC.out⟩
      · have u4 : ¬ ((n : Int) < 16) := by omega
        clear h16 hgo hin
        go_wp2_with fail
        apply wp_goto
        refine ⟨rfl, hJ _ _ ?_⟩
        clear hJ
        go_wp2_with fail
        all_goals
          refine HP.out.mono ?_
          rintro e w5 ⟨rfl, kk, rfl⟩
          have hk5 := hkW.drewN kk
          have hp5 : PsAt (wr.drewN kk) bp q := hpW.same ((Mods.refl (fun _ => False) wr).drewN kk)
          generalize wr.drewN kk = w5 at *
          go_wp2_with fail
          refine (openTag_no bp q text m w5 HS.out hp5).mono ?_
          rintro e w6 ⟨rfl, hm6, hC⟩
          have HC := Lib.hid hC
          clear hC hp5
          go_wp2_with fail
          refine (closingTag_no _ text m w6 HS.out).mono ?_
          rintro e w' ⟨rfl, rfl⟩
          go_wp2_with fail
          try rw [Exit.noGoto_ret]
          go_ret
          exact ⟨rfl, (hk5.mono (fun _ _ h => absurd h (fun x => x))).trans hm6, HC.out⟩
end Go.Proofs.YtdnlfdppjfjncaaGreatDoor

/- No block begins with a line that begins with `<scheme:`. -/
namespace Go.Proofs.YtdnlfdppjfjncaaGreatDoor
open Go Go.RowKit Go.Proofs

theorem newHTML_sch (bp g cap : Nat) (q : PSt) (T : Nat) (v : Value) (text : ByteArray) (m : Nat) (nl : Int) (w : World) (hS : Sch text m) (h : NoPara w bp g 0 cap q T v) (hT : Txt text) :
    Calls Tryz.prog 100 #[.pointer (some ⟨bp, 0, none⟩), LV 0 text nl] w fun e w' => e = .returned (.tuple #[LV 0 text nl, .bool false]) ∧ Mods (fun k => k = bp) w w' ∧ CornerAt w' bp q := by
  have hbp := h.at_.lt
  have HN := Lib.hid h
  clear h
  go_enter Tryz.func100, Tryz.ntmps100
  go_wp2_with fail
  generalize hW : (((w.alloc _).alloc _).alloc _ : World) = W
  have hm0 : Same w W := by subst hW; exact (((Mods.refl _ w).alloc _).alloc _).alloc _
  have hb : LineAt W w.heap.size 0 text nl := by subst hW; exact ((Blk.newAt _ _ rfl).alloc _).alloc _
  have hr : LineAt W (w.heap.size + 1) 0 ⟨#[]⟩ 0 := by subst hW; exact (Blk.newAt _ _ (by simp)).alloc _
  have hl : LineAt W (w.heap.size + 1 + 1) 0 text nl := by subst hW; exact Blk.newAt _ _ (by simp)
  clear hW
  refine (startHTML_sch bp g cap q T v _ text m nl W hS (HN.out.same hm0) hT hl).mono ?_
  rintro e w1 ⟨rfl, hm1, hC⟩
  have hk : Mods (fun k => k = bp) w w1 := (hm0.mono (fun _ _ h => absurd h (fun x => x))).trans hm1
  have hb1 := hb.keep1 hm1 (by omega)
  have hr1 := hr.keep1 hm1 (by omega)
  have HC := Lib.hid hC
  obtain ⟨g0, g1, g2, g3, g4, gf0, gf1, gf2, gf3, gf4, gbl⟩ := LineAt.facts hb1
  obtain ⟨r0, r1, r2, r3, r4, rf0, rf1, rf2, rf3, rf4, rbl⟩ := LineAt.facts hr1
  clear hb hr hb1 hm1 hm0 hl hC
  go_wp2
  exact bodyPost_ret (v := .tuple #[LV 0 text nl, .bool false]) (by simp [results, Tryz.results100, go_sem, r0, r1, r2, r3, r4]) rfl ⟨rfl, by
    exact hk.then ((put5 hr1 0 text nl).1) (by intro b hb hh; omega), by
    obtain ⟨c, hc⟩ := HC.out
    exact ⟨c, hc.keep ((put5 hr1 0 text nl).1) (by show ¬ bp = w.heap.size + 1; omega)⟩⟩

theorem sch_at {text : ByteArray} {m : Nat} (hS : Sch text m) : at0 text (p3 text 0) = 60 := by
  have := hS.lt
  rw [sch_p3 hS, at0_eq (by omega)]
  exact hS.open_ (by omega)

theorem triesNo_sch (bp g cap : Nat) (p : PSt) (T : Nat) (v : Value) (text : ByteArray) (m : Nat) (nl : Int) (hd : p.depth = (0 : Nat)) (hT4 : T ≠ 242) (hS : Sch text m) (hT : Txt text) : TriesNoC bp g cap p T v text nl := by
  intro c W h f hf
  have ha := sch_at hS
  have hne : ∀ k : Int, k ≠ 60 → ((at0 text (p3 text 0)).toNat : Int) ≠ k := by
    intro k hk e
    rw [ha] at e
    exact hk (by rw [← e]; rfl)
  have hit : ItemNo text 0 := Or.inl (fun k hk => hne k (by
    simp only [List.mem_cons, List.not_mem_nil, or_false] at hk
    omega))
  have up : ∀ {e : Ending} {w' : World} {r : Ending}, e = r ∧ Same W w' → e = r ∧ Mods (fun k => k = bp) W w' ∧ ∃ c', PsAt w' bp { p with corner := c' } := fun ⟨h1, h2⟩ =>
    ⟨h1, h2.mono (fun _ _ x => absurd x (fun x => x)), c, h.at_.same h2⟩
  simp only [List.mem_cons, List.not_mem_nil, or_false] at hf
  rcases hf with rfl | rfl | rfl | rfl | rfl | rfl | rfl | rfl
  · exact (newQuote_no _ text 0 nl W (Nat.zero_le _) hT (hne _ (by decide))).mono fun e w' => up
  · exact (newATX_no _ text 0 nl W (Nat.zero_le _) hT (hne _ (by decide))).mono fun e w' => up
  · exact (newSetext_first bp g 0 cap _ T v text 0 nl W h hd).mono fun e w' => up
  · exact (newHR_no _ text 0 nl W (Nat.zero_le _) hT (hne _ (by decide)) (hne _ (by decide)) (hne _ (by decide))).mono fun e w' => up
  · exact (newListItem_no bp g 1 cap none _ T 0 v text 0 nl W h.at_ h.stack hd (by omega) h.small h.top hT4 (Nat.zero_le _) hT hit).mono fun e w' => up
  · refine (newHTML_sch bp g cap { p with corner := c } T v text m nl W hS h hT).mono fun e w' ⟨h1, h2, c', h3⟩ => ⟨h1, h2, c', h3⟩
  · exact (newFence_no _ text 0 nl W (Nat.zero_le _) hT (hne _ (by decide)) (hne _ (by decide))).mono fun e w' => up
  · exact (newPre_first bp g 0 cap _ T v text 0 nl W (Nat.zero_le _) hT h (by rw [ha]; decide)).mono fun e w' => up
end Go.Proofs.YtdnlfdppjfjncaaGreatDoor

/- (*Parser).parse of one line that is an automatic link. -/
namespace Go.Proofs.YtdnlfdppjfjncaaGreatDoor
open Go Go.RowKit Go.Proofs

/-- A line, whatever it begins with. -/
structure OneLn (s : ByteArray) : Prop where
  pos : 0 < s.size
  small : s.size ≤ 900000
  first : isW s[0] = false
  last : isW (s[s.size - 1]'(by omega)) = false
  no0 : ∀ i (hi : i < s.size), s[i] ≠ 0
  no10 : ∀ i (hi : i < s.size), s[i] ≠ 10
  no13 : ∀ i (hi : i < s.size), s[i] ≠ 13
  no91 : s[0] ≠ 91
  no9 : ∀ i (hi : i < s.size), s[i] ≠ 9

/-- What stands of the document when both blocks are closed. -/
structure TwoClosedC (w w' : World) (bp g cap pp : Nat) (cc : Bool) (s : ByteArray) : Prop where
  mods : Mods (fun k => k = bp ∨ k = g) w w'
  ex : ∃ rk pk tb tg tc ig ic, w.heap.size ≤ rk ∧ w.heap.size ≤ pk ∧ w.heap.size ≤ tb ∧
    Blk w' rk #[.int .i64 0, .int .i64 0, .slice (some ⟨ig, 0, none⟩) 1 ic, .map none] 339 ∧
    Blk w' pk #[.int .i64 1, .int .i64 1, .pointer (some ⟨tb, 0, none⟩)] 155 ∧
    Blk w' tb #[.int .i64 1, .int .i64 1, .slice none 0 0, .string s] 110 ∧
    PsAt w' bp { p2 pp g cap with corner := cc, texts := .slice (some ⟨tg, 0, none⟩) 1 tc, stack := .slice (some ⟨g, 0, none⟩) 0 cap, root := .pointer (some ⟨rk, 0, none⟩) } ∧
    w'.ownsRow 0 105 1 (.slice (some ⟨tg, 0, none⟩) 1 tc) 1 [.pointer (some ⟨tb, 0, none⟩)] ∧
    w'.ownsRow 0 68 1 (.slice (some ⟨ig, 0, none⟩) 1 ic) 1 [.iface 153 (.pointer (some ⟨pk, 0, none⟩))]

theorem closed_twoC (bp g cap bb pp : Nat) (cc : Bool) (tv : Value) (s : ByteArray) (v : Option Addr) (w : World) (hp : PsAt w bp { p2 pp g cap with corner := cc })
    (hown : w.ownsRow 0 121 4 (.slice (some ⟨g, 0, none⟩) (0 + 2) cap) (0 + 2) ([.iface 98 (.pointer v), .slice none 0 0, .int .i64 0, .int .i64 0] ++ [.iface 162 (.pointer (some ⟨bb, 0, none⟩)), .slice none 0 0, .int .i64 1, .int .i64 1]))
    (hB : Blk w bb #[tv, .pointer none] 166) (htv : w.ownsRow 0 9 1 tv 1 [.string s]) (hs : OneLn s) :
    Calls Tryz.prog 65 #[.pointer (some ⟨bp, 0, none⟩), .int .i64 0] w fun e w' => e = .returned (.tuple #[]) ∧ TwoClosedC w w' bp g cap pp cc s := by
  have hs6 : s.size ≤ 1000000 := by have := hs.small; omega
  obtain ⟨gt, ct, rfl, _, _, hc⟩ := ownsRow_form htv (by omega)
  have hc0 := hc 0 _ rfl
  have hJ : ∀ W, Same w W → Calls Tryz.prog 29 #[.slice (some ⟨gt, 0, none⟩) 1 ct, .string ⟨#[10]⟩] W fun e W' => e = .returned (.string s) ∧ Same W W' := fun W hW =>
    (join_one gt ct s ⟨#[10]⟩ W ((World.cell?_of_block (hW.block gt (World.block_lt_of_cell? _ _ hc0) (fun x => x))).trans hc0)).mono fun e W' ⟨h1, h2⟩ => ⟨h1, by rw [← h2]; exact Mods.refl _ _⟩
  have h91 := hs.no91
  have h10 := hs.no10 0 hs.pos
  have h9 := hs.no9 0 hs.pos
  have h32 : s[0]'hs.pos ≠ 32 := by intro h; have := hs.first; rw [h] at this; cases this
  have hcl := closePara bp bb g 0 cap 0 0 { p2 pp g cap with corner := cc } [] [] [] (.iface 98 (.pointer v)) (.slice none 0 0) (.slice none 0 0) _ 0 0 1 1 1 s w hp rfl (by omega) hown ⟨rfl, Or.inl ⟨rfl, rfl⟩⟩ (by omega) hB ⟨_, _, rfl⟩ (by omega)
    ⟨rfl, Or.inl ⟨rfl, rfl⟩⟩ (by omega) hJ hs.pos hs6 h32 h9 h10 h91 (by omega) (by omega)
  have hgen := trimStack_gen bp 0 (fun k W => match k with
    | 2 => W = w
    | 1 => ∃ u, ParaClosed w W bp g 0 cap 0 0 { p2 pp g cap with corner := cc } [] [] [] (.iface 98 (.pointer v)) (.slice none 0 0) 0 0 1 (1 + (1 : Nat) - 1) s u
    | 0 => TwoClosedC w W bp g cap pp cc s
    | _ => False) (by omega) ?_ ?_ 2 w rfl
  · exact hgen
  · intro k W hP
    match k, hP with
    | 2, hP => subst hP; exact ⟨by omega, _, _, hp.stack⟩
    | 1, ⟨u, hPC⟩ =>
      obtain ⟨pk, tb, tg, tc, ig, ic, _, _, _, _, _, h, _⟩ := hPC.ex
      exact ⟨by omega, _, _, h.stack⟩
    | 0, hP =>
      obtain ⟨rk, pk, tb, tg, tc, ig, ic, _, _, _, _, _, _, h, _⟩ := hP.ex
      exact ⟨by omega, _, _, h.stack⟩
  · intro k W hP
    match k, hP with
    | 1, hP => subst hP; exact hcl.mono fun e w' ⟨v1, h1, h2⟩ => ⟨v1, h1, v1, h2⟩
    | 0, ⟨u, hPC⟩ =>
      obtain ⟨pk, tb, tg, tc, ig, ic, _, hpk, htb, hPb, hTb, hps, htx, hrow, hin⟩ := hPC.ex
      refine (closeRoot bp g cap _ v (some ⟨ig, 0, none⟩) 1 ic none 0 0 W hps rfl hrow rfl).mono ?_
      rintro e W' ⟨u', rfl, hm, rk, hrk, hR, hps'⟩
      have h1 := hPC.mods.size
      have hne : ∀ {b : Nat} {cs : Array Value} {T : Nat}, Blk W b cs T → T ≠ 95 → ¬ (b = bp) := fun h hT => by
        obtain ⟨tail, htl⟩ := id hps
        exact h.ne_of_type htl hT
      refine ⟨u', rfl, ?_, rk, pk, tb, tg, tc, ig, ic, by omega, hpk, htb, hR, hPb.keep hm (hne hPb (by decide)), hTb.keep hm (hne hTb (by decide)), hps', ?_, ?_⟩
      · refine (hPC.mods.mono (fun k _ h => ?_)).trans (hm.mono (fun _ _ h => Or.inl h))
        rcases h with h | h | h | h
        · exact Or.inl h
        · exact Or.inr h
        · cases h
        · cases h
      · exact ownsRow_keep htx hm (fun k hk x => own_ne_ps htx hps (by decide) (by rw [← x]; exact hk))
      · exact ownsRow_keep hin hm (fun k hk x => own_ne_ps hin hps (by decide) (by rw [← x]; exact hk))

/-- A text of one line without a line feed. -/
theorem feed_one {s : ByteArray} (hs : OneLn s) : Feed (fun j => if j = 0 then s else ⟨#[]⟩) [s] where
  done := rfl
  step := by
    intro j l hl
    cases j with
    | zero =>
      have : s = l := Option.some.inj hl
      subst this
      exact Or.inr ⟨rfl, hs.pos, rfl⟩
    | succ j => simp at hl
  no10 := by
    intro l hl
    have : l = s := by simpa using hl
    subst this
    exact hs.no10
  no13 := by
    intro j i hi
    by_cases h : j = 0
    · subst h; exact hs.no13 i hi
    · exact absurd hi (by show ¬ i < (if j = 0 then s else ⟨#[]⟩ : ByteArray).size; rw [if_neg h]; exact Nat.not_lt_zero _)
  no0 := fun i hi => hs.no0 i hi
  small := by
    intro j
    by_cases h : j = 0
    · subst h; exact hs.small
    · show (if j = 0 then s else ⟨#[]⟩ : ByteArray).size ≤ 900000; rw [if_neg h]; exact Nat.zero_le _
  count := by simp

/-- What has been read behind j lines. -/
def R1 (w : World) (pp : Nat) (s : ByteArray) (j : Nat) (W : World) : Prop :=
  Same w W ∧ ∃ g cap v, w.heap.size ≤ g ∧
    ((j = 0 ∧ PsAt W w.heap.size { p0 pp with stack := .slice (some ⟨g, 0, none⟩) 1 cap } ∧ W.ownsRow 0 121 4 (.slice (some ⟨g, 0, none⟩) 1 cap) 1 [rootV' v, .slice none 0 0, .int .i64 0, .int .i64 0]) ∨
     (j = 1 ∧ ∃ c bb tv, PsAt W w.heap.size { p2 pp g cap with corner := c } ∧ w.heap.size ≤ bb ∧
       W.ownsRow 0 121 4 (.slice (some ⟨g, 0, none⟩) (0 + 2) cap) (0 + 2) ([rootV' v, .slice none 0 0, .int .i64 0, .int .i64 0] ++ [.iface 162 (.pointer (some ⟨bb, 0, none⟩)), .slice none 0 0, .int .i64 1, .int .i64 1]) ∧
       Blk W bb #[tv, .pointer none] 166 ∧ W.ownsRow 0 9 1 tv 1 [.string s]))

/-- Closed; the inlines of i of the one text read. -/
def D1 (w : World) (pp : Nat) (s : ByteArray) (all : List Pc) (tx : Value) (i : Nat) (W : World) : Prop :=
  (i = 0 ∧ Same w W ∧ ∃ g cap c rk pk tb tg tc ig ic, tx = .slice (some ⟨tg, 0, none⟩) 1 tc ∧ w.heap.size ≤ tb ∧
    Blk W rk #[.int .i64 0, .int .i64 0, .slice (some ⟨ig, 0, none⟩) 1 ic, .map none] 339 ∧
    Blk W pk #[.int .i64 1, .int .i64 1, .pointer (some ⟨tb, 0, none⟩)] 155 ∧
    Blk W tb #[.int .i64 1, .int .i64 1, .slice none 0 0, .string s] 110 ∧
    PsAt W w.heap.size { p2 pp g cap with corner := c, texts := .slice (some ⟨tg, 0, none⟩) 1 tc, stack := .slice (some ⟨g, 0, none⟩) 0 cap, root := .pointer (some ⟨rk, 0, none⟩) } ∧
    W.ownsRow 0 105 1 (.slice (some ⟨tg, 0, none⟩) 1 tc) 1 [.pointer (some ⟨tb, 0, none⟩)] ∧
    W.ownsRow 0 68 1 (.slice (some ⟨ig, 0, none⟩) 1 ic) 1 [.iface 153 (.pointer (some ⟨pk, 0, none⟩))]) ∨
  (i = 1 ∧ ∃ rk q, DocAt w W w.heap.size rk pp s all ∧ PsAt W w.heap.size q ∧ q.root = .pointer (some ⟨rk, 0, none⟩) ∧ q.parser = pp)

theorem reads_auto (pp : Nat) (s : ByteArray) (m : Nat) (w : World) (hs : OneLn s) (hU : Uri s m) (all : List Pc) (hg : Plan s 0 0 all) (hO : Off w pp) : Reads w w.heap.size pp [s] (R1 w pp s) (D1 w pp s all) 1 where
  line := by
    rintro j W ⟨_, g, cap, v, _, ⟨rfl, hp, _⟩ | ⟨rfl, c, bb, tv, hp, _⟩⟩
    · exact ⟨hp.lineno, hp.fr 3, hp.lt⟩
    · exact ⟨hp.lineno, hp.fr 3, hp.lt⟩
  same := by
    rintro j W W' ⟨h1, g, cap, v, h2, ⟨h3, h4, h5⟩ | ⟨h3, c, bb, tv, h4, h5, h6, h7, h8⟩⟩ hm
    · exact ⟨h1.trans hm, g, cap, v, h2, Or.inl ⟨h3, h4.same hm, ownsRow_keep h5 hm (fun _ _ x => x)⟩⟩
    · exact ⟨h1.trans hm, g, cap, v, h2, Or.inr ⟨h3, c, bb, tv, h4.same hm, h5, ownsRow_keep h6 hm (fun _ _ x => x), hm.blk h7, ownsRow_keep h8 hm (fun _ _ x => x)⟩⟩
  first := fun W g cap v hS hg' hp hr => ⟨hS, g, cap, v, hg', Or.inl ⟨rfl, hp, hr⟩⟩
  step := by
    rintro j l nl W hl ⟨hsame, g, cap, v, hgw, ⟨rfl, hp, hown⟩ | ⟨rfl, _⟩⟩
    · have hls : s = l := Option.some.inj hl
      subst hls
      have hm : Mods (fun k => k = w.heap.size) W (W.setCell ⟨w.heap.size, 3, none⟩ (.int .i64 (((0 : Nat) : Int) + 1))) := (Mods.refl (fun k => k = w.heap.size) W).setCell (p := ⟨w.heap.size, 3, none⟩) (fun _ => rfl) _
      have hpY : PsAt (W.setCell ⟨w.heap.size, 3, none⟩ (.int .i64 (((0 : Nat) : Int) + 1))) w.heap.size { p0 pp with lineno := 1, stack := .slice (some ⟨g, 0, none⟩) 1 cap } := hp.set 3 _ _ rfl (by decide)
      have hownY := ownsRow_keep hown hm (fun k hk x => own_ne_ps hown hp (by decide) (by rw [← x]; exact hk))
      generalize (W.setCell ⟨w.heap.size, 3, none⟩ (.int .i64 (((0 : Nat) : Int) + 1)) : World) = Y at *
      have hpl := hO.lt
      have hws := hsame.size
      have hYs := hm.size
      have hsz := hs.small
      have hppb : pp ≠ w.heap.size := by omega
      have hOY : Opt Y { p0 pp with lineno := 1, stack := .slice (some ⟨g, 0, none⟩) 1 cap } 5 false := ((hO.same hsame).opt rfl 5 (by omega)).keep hm hppb
      have hNP : NoPara Y w.heap.size g 0 cap { p0 pp with lineno := 1, stack := .slice (some ⟨g, 0, none⟩) 1 cap } 98 (.pointer v) := ⟨hpY, rfl, by omega, (row_cells (n := 0) (l := []) hownY).1, by decide⟩
      refine (addLine_firstC w.heap.size g cap _ _ _ _ s nl Y hNP (by omega) (blankAt_id hs.pos hs.first) hOY hownY hppb (triesNo_sch w.heap.size g cap _ _ _ s m nl rfl (by decide) hU.sch ⟨by omega, hs.no9⟩)).mono ?_
      rintro e w2 ⟨rfl, c, hPN⟩
      rw [trimL_id hs.pos hs.first] at hPN
      obtain ⟨hm2, g2, cap2, bb, tv, a1, a2, a3, a4, a5, a6, a7⟩ := hPN
      have hg2 : w.heap.size ≤ g2 := by
        by_cases hlt : g2 < Y.heap.size
        · have hh : g = g2 := Option.some.inj (a6 hlt)
          omega
        · omega
      refine ⟨rfl, ?_, g2, cap2, v, hg2, Or.inr ⟨rfl, c, bb, tv, a1, by omega, a2, a3, a4⟩⟩
      exact (hsame.then hm (fun b hb x => by omega)).then hm2 (fun b hb x => by
        rcases x with x | x
        · omega
        · have hh : g = b := Option.some.inj x
          omega)
    · simp at hl
  close := by
    rintro W ⟨hsame, g, cap, v, hgw, ⟨h, _⟩ | ⟨_, c, bb, tv, hp, hbb, hown, hB, htv⟩⟩
    · exact absurd h (by simp)
    · refine (closed_twoC w.heap.size g cap bb pp c tv s v W hp hown hB htv hs).mono ?_
      rintro e w' ⟨rfl, hTw⟩
      have hws := hsame.size
      obtain ⟨rk, pk, tb, tg, tc, ig, ic, hrk, hpk, htb, hR, hPk, hT, hps, htx, hin⟩ := hTw.ex
      exact ⟨rfl, _, _, hps.texts, Or.inl ⟨rfl, hsame.then hTw.mods (fun b hb h => by omega), g, cap, c, rk, pk, tb, tg, tc, ig, ic, rfl, by omega, hR, hPk, hT, hps, htx, hin⟩⟩
  texts := by
    rintro a c i W hi (⟨rfl, hsame, g, cap, cc, rk, pk, tb, tg, tc, ig, ic, htx0, htb, hR, hPk, hT, hps, htx, hin⟩ | ⟨rfl, _⟩)
    · cases htx0
      have t0 : W.cell? ⟨tg, 0, none⟩ = some (.pointer (some ⟨tb, 0, none⟩)) := by
        obtain ⟨_, _, he, _, _, hc⟩ := ownsRow_form htx (by omega)
        cases he
        exact hc 0 _ rfl
      have hcap : 1 ≤ c := by
        rcases htx.2 with ⟨h, _⟩ | ⟨_, _, _, hv, _, _, hc, _⟩
        · cases h
        · cases hv; exact hc
      have hz := hs.small
      have hTne : tb ≠ w.heap.size := by
        obtain ⟨tail, htl⟩ := id hps
        exact hT.ne_of_type htl (by decide)
      refine ⟨tg, tb, s, rfl, hcap, t0, hT.cell 3, ?_⟩
      have hOw := (hO.same hsame).opt (p := { p2 pp g cap with corner := cc, texts := .slice (some ⟨tg, 0, none⟩) 1 c, stack := .slice (some ⟨g, 0, none⟩) 0 cap, root := .pointer (some ⟨rk, 0, none⟩) }) rfl 3 (by omega)
      refine (inline_any w.heap.size _ s W hps hs.small hs.pos all hg hOw (by have := hO.lt; show pp ≠ w.heap.size; omega) (trimSpaceTab_id s W (by omega) hs.pos hs.first hs.last)).mono ?_
      rintro e w4 ⟨gl, n, lc, xs, rfl, hn0, hn1, c4, hH⟩
      have hT4 := hT.keep1 hH.mods hTne
      refine ⟨_, _, _, rfl, ⟨_, hT4.cell 2, hT4.fr 2, hT4.lt⟩, Or.inr ⟨rfl, rk, _, docAt_mk hsame (Nat.le_refl _) htb hps hR hPk hT hin hH hn0 hn1 rfl, hH.at_.set_other (a := ⟨tb, 2, none⟩) hTne _, rfl, rfl⟩⟩
    · exact absurd hi (Nat.lt_irrefl _)
  sameD := by
    rintro tx i W W' (⟨h1, h2, g, cap, cc, rk, pk, tb, tg, tc, ig, ic, a1, a2, a3, a4, a5, a6, a7, a8⟩ | ⟨h1, rk, q, h2, h3, h4, h5⟩) hm
    · exact Or.inl ⟨h1, h2.trans hm, g, cap, cc, rk, pk, tb, tg, tc, ig, ic, a1, a2, hm.blk a3, hm.blk a4, hm.blk a5, a6.same hm, ownsRow_keep a7 hm (fun _ _ x => x), ownsRow_keep a8 hm (fun _ _ x => x)⟩
    · exact Or.inr ⟨h1, rk, q, h2.same hm, h3.same hm, h4, h5⟩
  fin := by
    rintro tx W (⟨h, _⟩ | ⟨_, rk, q, h2, h3, h4, h5⟩)
    · exact absurd h (by decide)
    · have hoff := (hO.same h2.mods).opt (p := p0 pp) rfl 2 (by omega)
      exact ⟨⟨rk, by rw [← h4]; exact h3.root⟩, ⟨_, h3.corner⟩, hoff.cell, by rw [← h5]; exact h3.parser⟩

theorem parse_auto (pp : Nat) (s : ByteArray) (m : Nat) (w : World) (hs : OneLn s) (hU : Uri s m) (all : List Pc) (hg : Plan s 0 0 all) (hO : Off w pp) :
    Calls Tryz.prog 51 #[.pointer (some ⟨pp, 0, none⟩), .string s] w fun e w' => ∃ bp rk c, e = .returned (.tuple #[.pointer (some ⟨rk, 0, none⟩), .bool c]) ∧ DocAt w w' bp rk pp s all := by
  refine (parse_gen pp (fun j => if j = 0 then s else ⟨#[]⟩) [s] w (feed_one hs) (R1 w pp s) (D1 w pp s all) 1 (by omega) (reads_auto pp s m w hs hU all hg hO)).mono ?_
  rintro e w' ⟨rk, c, rfl, h1, tx, ⟨h, _⟩ | ⟨_, rk', q, h2, h3, h4, h5⟩⟩
  · exact absurd h (by decide)
  · have e1 := h1.symm.trans (h3.root.trans (by rw [h4]))
    cases e1
    exact ⟨w.heap.size, rk, c, rfl, h2⟩
end Go.Proofs.YtdnlfdppjfjncaaGreatDoor

/- Letters and digits. -/
namespace Go.Proofs.YtdnlfdppjfjncaaGreatDoor
open Go Go.RowKit Go.Proofs

def ltrB (c : UInt8) : Bool := (97 ≤ c.toNat && c.toNat ≤ 122) || (65 ≤ c.toNat && c.toNat ≤ 90)
def digB (c : UInt8) : Bool := 48 ≤ c.toNat && c.toNat ≤ 57
end Go.Proofs.YtdnlfdppjfjncaaGreatDoor

/- The reference's isSafe: which bytes of a destination stay as they are. -/
namespace Go.Proofs.YtdnlfdppjfjncaaGreatDoor
open Go Go.RowKit Go.Proofs

def safeS : ByteArray := ⟨#[45, 95, 46, 43, 33, 42, 39, 40, 41, 44, 37, 35, 64, 63, 61, 59, 58, 47, 38, 36, 126, 124]⟩
def safeB (c : UInt8) : Bool := ltrB c || digB c || safeS.data.toList.contains c

set_option maxHeartbeats 2000000 in
theorem specLetter_any (c : UInt8) (w : World) : Calls Tryz.prog 52 #[.int .u8 c.toNat] w fun e w' => e = .returned (.bool (ltrB c)) ∧ w = w' := by
  have hcases : (c.toNat < 65 ∨ (90 < c.toNat ∧ c.toNat < 97) ∨ 122 < c.toNat) ∨ (65 ≤ c.toNat ∧ c.toNat ≤ 90) ∨ (97 ≤ c.toNat ∧ c.toNat ≤ 122) := by omega
  rcases hcases with (h | h | h) | h | h
  · have HL : Hid (ltrB c = false) := by show ltrB c = false; simp [ltrB]; omega
    have w1 : ¬ ((97 : Int) ≤ c.toNat) := by omega
    have w2 : ¬ ((65 : Int) ≤ c.toNat) := by omega
    clear h
    go_enter Tryz.func52, Tryz.ntmps52
    go_wp2_with fail
    go_ret
    exact ⟨by rw [HL.out]; rfl, rfl⟩
  · have HL : Hid (ltrB c = false) := by show ltrB c = false; simp [ltrB]; omega
    have w1 : ¬ ((97 : Int) ≤ c.toNat) := by omega
    have w2 : (65 : Int) ≤ c.toNat := by omega
    have w3 : ¬ ((c.toNat : Int) ≤ 90) := by omega
    clear h
    go_enter Tryz.func52, Tryz.ntmps52
    go_wp2_with fail
    go_ret
    exact ⟨by rw [HL.out]; rfl, rfl⟩
  · have HL : Hid (ltrB c = false) := by show ltrB c = false; simp [ltrB]; omega
    have w1 : (97 : Int) ≤ c.toNat := by omega
    have w2 : (65 : Int) ≤ c.toNat := by omega
    have w3 : ¬ ((c.toNat : Int) ≤ 90) := by omega
    have w4 : ¬ ((c.toNat : Int) ≤ 122) := by omega
    clear h
    go_enter Tryz.func52, Tryz.ntmps52
    go_wp2_with fail
    go_ret
    exact ⟨by rw [HL.out]; rfl, rfl⟩
  · have HL : Hid (ltrB c = true) := by show ltrB c = true; simp [ltrB]; omega
    have w1 : ¬ ((97 : Int) ≤ c.toNat) := by omega
    have w2 : (65 : Int) ≤ c.toNat := by omega
    have w3 : (c.toNat : Int) ≤ 90 := by omega
    clear h
    go_enter Tryz.func52, Tryz.ntmps52
    go_wp2_with fail
    go_ret
    exact ⟨by rw [HL.out]; rfl, rfl⟩
  · have HL : Hid (ltrB c = true) := by show ltrB c = true; simp [ltrB]; omega
    have w1 : (97 : Int) ≤ c.toNat := by omega
    have w4 : (c.toNat : Int) ≤ 122 := by omega
    clear h
    go_enter Tryz.func52, Tryz.ntmps52
    go_wp2_with fail
    go_ret
    exact ⟨by rw [HL.out]; rfl, rfl⟩

theorem specDigit_any (c : UInt8) (w : World) : Calls Tryz.prog 53 #[.int .u8 c.toNat] w fun e w' => e = .returned (.bool (digB c)) ∧ w = w' := by
  by_cases h1 : 48 ≤ c.toNat
  · by_cases h2 : c.toNat ≤ 57
    · have HL : Hid (digB c = true) := by show digB c = true; simp [digB]; omega
      have w1 : (48 : Int) ≤ c.toNat := by omega
      have w2 : (c.toNat : Int) ≤ 57 := by omega
      clear h1 h2
      go_enter Tryz.func53, Tryz.ntmps53
      go_wp2_with fail
      go_ret
      exact ⟨by rw [HL.out]; rfl, rfl⟩
    · have HL : Hid (digB c = false) := by show digB c = false; simp [digB]; omega
      have w1 : (48 : Int) ≤ c.toNat := by omega
      have w2 : ¬ ((c.toNat : Int) ≤ 57) := by omega
      clear h1 h2
      go_enter Tryz.func53, Tryz.ntmps53
      go_wp2_with fail
      go_ret
      exact ⟨by rw [HL.out]; rfl, rfl⟩
  · have HL : Hid (digB c = false) := by show digB c = false; simp [digB]; omega
    have w1 : ¬ ((48 : Int) ≤ c.toNat) := by omega
    clear h1
    go_enter Tryz.func53, Tryz.ntmps53
    go_wp2_with fail
    go_ret
    exact ⟨by rw [HL.out]; rfl, rfl⟩

set_option maxHeartbeats 4000000 in
theorem isSafe_any (c : UInt8) (w : World) : Calls Tryz.prog 40 #[.int .u8 c.toNat] w fun e w' => e = .returned (.bool (safeB c)) ∧ w = w' := by
  have HB : Hid (safeB c = (ltrB c || digB c || safeS.data.toList.contains c)) := rfl
  go_enter Tryz.func40, Tryz.ntmps40
  go_wp2_with fail
  refine (specLetter_any c w).mono ?_
  rintro e w' ⟨rfl, rfl⟩
  cases hl : ltrB c with
  | true =>
    have HL := Lib.hid hl
    clear hl
    go_wp2_with fail
    go_ret
    exact ⟨by rw [HB.out, HL.out]; rfl, rfl⟩
  | false =>
    have HL := Lib.hid hl
    clear hl
    go_wp2_with fail
    refine (specDigit_any c w).mono ?_
    rintro e w' ⟨rfl, rfl⟩
    cases hd : digB c with
    | true =>
      have HD := Lib.hid hd
      clear hd
      go_wp2_with fail
      go_ret
      exact ⟨by rw [HB.out, HL.out, HD.out]; rfl, rfl⟩
    | false =>
      have HD := Lib.hid hd
      clear hd
      go_wp2_with fail
      go_loopg [3] 22 (fun k v wr => ∃ i : Nat, v = .int .i64 i ∧ k = 22 - i ∧ i ≤ 22 ∧ (∀ j (hj : j < safeS.size), j < i → safeS[j] ≠ c) ∧ w = wr)
      case atStart => exact ⟨0, rfl, rfl, by omega, fun j _ h => absurd h (Nat.not_lt_zero _), rfl⟩
      case round =>
        obtain ⟨i, rfl, hk, hi, hno, rfl⟩ := hrel
        have HK := Lib.hid hk
        have HN := Lib.hid hno
        clear hk hno
        have w3 : IntKind.i64.wrap ((i : Int) + 1) = (i : Int) + 1 := IntWalk.i64_in _ (by omega)
        by_cases hlt : i < 22
        · have w1 : (i : Int) < 22 := by omega
          have w2 : (0 : Int) ≤ i := by omega
          have hsz : (⟨#[45, 95, 46, 43, 33, 42, 39, 40, 41, 44, 37, 35, 64, 63, 61, 59, 58, 47, 38, 36, 126, 124]⟩ : ByteArray).size = 22 := rfl
          by_cases hc : (⟨#[45, 95, 46, 43, 33, 42, 39, 40, 41, 44, 37, 35, 64, 63, 61, 59, 58, 47, 38, 36, 126, 124]⟩ : ByteArray)[i]'(by rw [hsz]; exact hlt) = c
          · have d : ((((⟨#[45, 95, 46, 43, 33, 42, 39, 40, 41, 44, 37, 35, 64, 63, 61, 59, 58, 47, 38, 36, 126, 124]⟩ : ByteArray)[i]'(by rw [hsz]; exact hlt)).toNat : Int) == (c.toNat : Int)) = true := by rw [hc]; simp
            have HC : Hid (safeS.data.toList.contains c = true) := List.contains_iff_mem.2 (by rw [← hc]; exact get_mem (s := safeS) (i := i) (by rw [show safeS.size = 22 from rfl]; exact hlt))
            clear hc
            go_wp2_with fail
            go_ret
            exact ⟨by rw [HB.out, HL.out, HD.out, HC.out]; rfl, rfl⟩
          · have d : ((((⟨#[45, 95, 46, 43, 33, 42, 39, 40, 41, 44, 37, 35, 64, 63, 61, 59, 58, 47, 38, 36, 126, 124]⟩ : ByteArray)[i]'(by rw [hsz]; exact hlt)).toNat : Int) == (c.toNat : Int)) = false := beq_eq_false_iff_ne.2 (fun e => hc (UInt8.toNat_inj.1 (by omega)))
            have HC : Hid (safeS[i]'(by rw [show safeS.size = 22 from rfl]; exact hlt) ≠ c) := hc
            clear hc
            go_wp2_with fail
            go_roundg (22 - (i + 1))
            case measure => have := HK.out; omega
            case rel => exact ⟨i + 1, by simp, rfl, by omega, fun j hj h => by
              by_cases he : j = i
              · subst he; exact HC.out
              · exact HN.out j hj (by omega), rfl⟩
        · have w1 : ¬ ((i : Int) < 22) := by omega
          obtain rfl : i = 22 := by omega
          have HC : Hid (safeS.data.toList.contains c = false) := by
            show safeS.data.toList.contains c = false
            rw [Bool.eq_false_iff]
            intro h
            obtain ⟨j, hj, e⟩ := mem_get (List.contains_iff_mem.1 h)
            exact HN.out j hj hj e
          go_wp2_with fail
          go_ret
          exact ⟨by rw [HB.out, HL.out, HD.out, HC.out]; rfl, rfl⟩
end Go.Proofs.YtdnlfdppjfjncaaGreatDoor
