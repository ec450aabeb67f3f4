/- Some texts of one proof, put into one file: LawZ2, LawZ3, LawZ4. -/
import Derived.Test.YtdnlfdppjfjncaaGreatDoorLz3
/- FnLazy answers true. -/
namespace Go.Proofs.YtdnlfdppjfjncaaGreatDoor
open Go Go.RowKit Go.Proofs

set_option maxRecDepth 100000 in
set_option maxHeartbeats 2000000 in
theorem lazy_big (d : UInt8) (fw : List UInt8) (ls : List ByteArray) (w : World) (a1 a2 : Option Addr) (cap1 cap2 : Nat) (w0 : (2147483647 : Int) < fw.length) :
    Calls Tryz.prog 7 #[.int .u8 d.toNat, .slice a1 fw.length cap1, .slice a2 ls.length cap2] w fun e w' => e = .returned (.bool true) ∧ Same w w' := by
  go_enter Tryz.func7, Tryz.ntmps7
  go_wp2_with fail
  go_ret
  exact ⟨rfl, Mods.refl _ _⟩
set_option maxRecDepth 100000 in
set_option maxHeartbeats 2000000 in
theorem lazy_unfit (d : UInt8) (fw : List UInt8) (ls : List ByteArray) (w : World) (a1 a2 : Option Addr) (cap1 cap2 : Nat) (w0 : ¬ (2147483647 : Int) < fw.length)
    (HF : Hid (Calls Tryz.prog 27 #[.slice a2 ls.length cap2] w fun e w' => e = .returned (.bool false) ∧ w = w')) :
    Calls Tryz.prog 7 #[.int .u8 d.toNat, .slice a1 fw.length cap1, .slice a2 ls.length cap2] w fun e w' => e = .returned (.bool true) ∧ Same w w' := by
  go_enter Tryz.func7, Tryz.ntmps7
  go_wp2_with fail
  refine HF.out.mono ?_
  rintro e w' ⟨rfl, rfl⟩
  go_wp2_with fail
  go_ret
  exact ⟨rfl, Mods.refl _ _⟩
set_option maxRecDepth 100000 in
set_option maxHeartbeats 2000000 in
theorem lazy_none (D n : Nat) (m1 m2 : Nat) (w : World) (a1 a2 : Option Addr) (cap1 cap2 : Nat) (w0 : ¬ (2147483647 : Int) < m1)
    (HF : Hid (Calls Tryz.prog 27 #[.slice a2 m2 cap2] w fun e w' => e = .returned (.bool true) ∧ w = w'))
    (wd : IntKind.i64.wrap (D : Int) = (D : Int)) (wn : (D : Int).tmod 10 = (n : Int)) (v0 : ((m2 : Int) == 0) = true) :
    Calls Tryz.prog 7 #[.int .u8 D, .slice a1 m1 cap1, .slice a2 m2 cap2] w fun e w' => e = .returned (.bool true) ∧ Same w w' := by
  go_enter Tryz.func7, Tryz.ntmps7
  go_wp2_with fail
  refine HF.out.mono ?_
  rintro e w' ⟨rfl, rfl⟩
  go_wp2_with fail
  go_ret
  exact ⟨rfl, Mods.refl _ _⟩
set_option maxRecDepth 100000 in
set_option maxHeartbeats 2000000 in
theorem lazy_many (D n : Nat) (m1 m2 : Nat) (w : World) (a1 a2 : Option Addr) (cap1 cap2 : Nat) (w0 : ¬ (2147483647 : Int) < m1)
    (HF : Hid (Calls Tryz.prog 27 #[.slice a2 m2 cap2] w fun e w' => e = .returned (.bool true) ∧ w = w'))
    (wd : IntKind.i64.wrap (D : Int) = (D : Int)) (wn : (D : Int).tmod 10 = (n : Int)) (v0 : ((m2 : Int) == 0) = false) (v1 : (20 : Int) < m2) :
    Calls Tryz.prog 7 #[.int .u8 D, .slice a1 m1 cap1, .slice a2 m2 cap2] w fun e w' => e = .returned (.bool true) ∧ Same w w' := by
  go_enter Tryz.func7, Tryz.ntmps7
  go_wp2_with fail
  refine HF.out.mono ?_
  rintro e w' ⟨rfl, rfl⟩
  go_wp2_with fail
  go_ret
  exact ⟨rfl, Mods.refl _ _⟩
set_option maxRecDepth 100000 in
set_option maxHeartbeats 2000000 in
theorem lazy_other (D n : Nat) (m1 m2 : Nat) (w : World) (a1 a2 : Option Addr) (cap1 cap2 : Nat) (w0 : ¬ (2147483647 : Int) < m1)
    (HF : Hid (Calls Tryz.prog 27 #[.slice a2 m2 cap2] w fun e w' => e = .returned (.bool true) ∧ w = w'))
    (wd : IntKind.i64.wrap (D : Int) = (D : Int)) (wn : (D : Int).tmod 10 = (n : Int)) (v0 : ((m2 : Int) == 0) = false) (v1 : ¬ (20 : Int) < m2) (v2 : ((m1 : Int) != m2) = true) :
    Calls Tryz.prog 7 #[.int .u8 D, .slice a1 m1 cap1, .slice a2 m2 cap2] w fun e w' => e = .returned (.bool true) ∧ Same w w' := by
  go_enter Tryz.func7, Tryz.ntmps7
  go_wp2_with fail
  refine HF.out.mono ?_
  rintro e w' ⟨rfl, rfl⟩
  go_wp2_with fail
  go_ret
  exact ⟨rfl, Mods.refl _ _⟩
end Go.Proofs.YtdnlfdppjfjncaaGreatDoor

/- FnLazy answers true: the walk of its loop. -/
namespace Go.Proofs.YtdnlfdppjfjncaaGreatDoor
open Go Go.RowKit Go.Proofs

theorem lzDoc_all (n : Nat) (fw : List UInt8) (ls : List ByteArray) : lzDoc n fw ls ls.length = endT (List.zipWith lzT (lzKs n fw ls.length) ls) := by
  unfold lzDoc
  rw [List.take_of_length_le (by rw [List.length_zipWith]; omega)]

theorem LzAcc.start {w wr : World} {ls : List ByteArray} {y : Value} (hm : Same w wr) (h : wr.ownsRow 0 9 1 y 0 []) (hf : ∀ k, y.ownBlock = some k → w.heap.size ≤ k) : LzAcc w wr ls 0 y :=
  ⟨hm, h, hf, fun l h => by simp at h⟩
theorem LzAcc.same' {w wr w2 : World} {ls : List ByteArray} {j : Nat} {y : Value} (h : LzAcc w wr ls j y) (hm : Same wr w2) : LzAcc w w2 ls j y :=
  ⟨h.same.trans hm, ownsRow_keep h.row hm (fun _ _ x => x), h.fresh, h.good⟩
theorem LzAcc.step {w wr w3 : World} {ls : List ByteArray} {j : Nat} {y : Value} {l : ByteArray} {O : Obj} {g c : Nat} (h : LzAcc w wr ls j y) (hl : ls[j]? = some l) (hg : Ltrs l)
    (h3 : w3.ownsRow 0 9 1 (.slice (some ⟨g, 0, none⟩) (j + 1) c) (j + 1) ((ls.take j).map .string ++ [.string l])) (hg3 : (wr.alloc O).grownBy w3 y.ownBlock) (hl3 : y.ownBlock = some g ∨ g = wr.heap.size + 1) : LzAcc w w3 ls (j + 1) (.slice (some ⟨g, 0, none⟩) (j + 1) c) := by
  have hz := h.same.size
  refine ⟨(h.same.alloc _).then (grown_mods hg3) (fun b hb hx => absurd (h.fresh b hx) (by omega)), by rw [take_succ_get hl, List.map_append]; exact h3, fun k hk => ?_, fun x hx => ?_⟩
  · cases hk
    rcases hl3 with e | e
    · exact h.fresh _ e
    · show w.heap.size ≤ g
      omega
  · rw [take_succ_get hl] at hx
    rcases List.mem_append.1 hx with hx | hx
    · exact h.good x hx
    · have : x = l := by simpa using hx
      subst this
      exact hg

set_option maxRecDepth 100000 in
set_option maxHeartbeats 4000000 in
theorem lazy_main (D n m : Nat) (fw : List UInt8) (ls : List ByteArray) (w : World) (a1 a2 : Addr) (cap1 cap2 : Nat) (w0 : ¬ (2147483647 : Int) < m)
    (HF : Hid (Calls Tryz.prog 27 #[.slice (some a2) m cap2] w fun e w' => e = .returned (.bool true) ∧ w = w'))
    (wd : IntKind.i64.wrap (D : Int) = (D : Int)) (wn : (D : Int).tmod 10 = (n : Int)) (v0 : ((m : Int) == 0) = false) (v1 : ¬ (20 : Int) < m)
    (HB : Hid (∀ i x, fw[i]? = some x → w.cell? (a1.add i) = some (.int .u8 x.toNat))) (HC : Hid (∀ i x, ls[i]? = some x → w.cell? (a2.add i) = some (.string x)))
    (HLf : Hid (fw.length = m)) (HLl : Hid (ls.length = m)) (hm0 : 0 < m) (hn9 : n ≤ 9) (HSZ : Hid (∀ l ∈ ls, l.size ≤ 2147483647)) :
    Calls Tryz.prog 7 #[.int .u8 D, .slice (some a1) m cap1, .slice (some a2) m cap2] w fun e w' => e = .returned (.bool true) ∧ Same w w' := by
  go_enter Tryz.func7, Tryz.ntmps7
  go_wp2_with fail
  refine HF.out.mono ?_
  rintro e w' ⟨rfl, rfl⟩
  go_wp2_with fail
  rw [show decide ((20 : Int) < (m : Int)) = false from by simpa using v1]
  have hA0 : LzAcc w (w.alloc (.cells #[] 9)) ls 0 (.slice (some ⟨w.heap.size, 0, none⟩) 0 0) :=
    LzAcc.start ((Mods.refl _ w).alloc _) (World.ownsRow_lit w #[] 0 (Nat.zero_le _) (Nat.zero_le _) rfl) (fun k hk => by cases hk; exact Nat.le_refl _)
  have HZ := Lib.hid (lzDoc_zero n fw ls)
  generalize hW : (w.alloc (.cells #[] 9) : World) = W at *
  clear hW
  go_loopg [8, 9, 43] m (fun k x y i wr => ∃ j : Nat, k = m - j ∧ j ≤ m ∧ i = .int .i64 j ∧ x = .string (lzDoc n fw ls j) ∧ LzAcc w wr ls j y)
  case atStart => exact ⟨0, rfl, Nat.zero_le _, rfl, by rw [HZ.out], hA0⟩
  case round =>
    clear hA0 v0 wd wn
    obtain ⟨j, hk, hj, rfl, rfl, hA⟩ := hrel
    have HK := Lib.hid hk
    clear hk
    by_cases hlt : j < m
    · have w1 : (j : Int) < m := by omega
      have w2 : (0 : Int) ≤ j := by omega
      have w3 : IntKind.i64.wrap ((j : Int) + 1) = (j : Int) + 1 := IntWalk.i64_in _ (by omega)
      obtain ⟨l, hlj⟩ : ∃ l, ls[j]? = some l := ⟨_, List.getElem?_eq_getElem (by have := HLl.out; omega)⟩
      have c1 : wr.cell? (a2.add j) = some (.string l) := hA.cell HC.out hlj
      have hl7 := HSZ.out l (List.mem_of_getElem? hlj)
      have HJ := Lib.hid hlj
      have HA := Lib.hid hA
      clear hlj
      by_cases h40 : 40 < l.size
      · clear hA
        go_wp2_with fail
        refine (only_big l _ 40 wr h40 hl7).mono ?_
        rintro e w' ⟨rfl, rfl⟩
        go_wp2_with fail
        go_ret
        exact ⟨rfl, HA.out.same⟩
      · cases hon : onF l abc9 0 with
        | false =>
          clear hA
          go_wp2_with fail
          refine (only_any l abc9 40 wr (by omega) (by omega)).mono ?_
          rintro e w' ⟨rfl, rfl⟩
          rw [hon]
          go_wp2_with fail
          go_ret
          exact ⟨rfl, HA.out.same⟩
        | true =>
          cases hf : fillOk l with
          | false =>
            clear hA
            go_wp2_with fail
            refine (only_any l abc9 40 wr (by omega) (by omega)).mono ?_
            rintro e w' ⟨rfl, rfl⟩
            rw [hon]
            go_wp2_with fail
            refine (filled_any l wr (by omega)).mono ?_
            rintro e w' ⟨rfl, rfl⟩
            rw [hf]
            go_wp2_with fail
            go_ret
            exact ⟨rfl, HA.out.same⟩
          | true =>
            have HG : Hid (Ltrs l) := ltrs_of hon hf (by omega)
            have hcs : (¬ ((0 : Int) < j) ∧ Hid (lzK n fw j = n)) ∨ ((0 : Int) < j) := by
              by_cases h0 : j = 0
              · subst h0; exact Or.inl ⟨by omega, rfl⟩
              · exact Or.inr (by omega)
            clear hA
            rcases hcs with ⟨g1, HK2⟩ | g1
            · skip
              go_wp2_with fail
              refine (only_any l abc9 40 wr (by omega) (by omega)).mono ?_
              rintro e w' ⟨rfl, rfl⟩
              rw [hon]
              go_wp2_with fail
              refine (filled_any l wr (by omega)).mono ?_
              rintro e w' ⟨rfl, rfl⟩
              rw [hf]
              clear hon hf
              go_wp2_with fail
              refine (rep_call ⟨#[62, 32]⟩ n (by decide) (by omega) wr wr (Mods.refl _ _)).mono ?_
              rintro e w2 ⟨rfl, hS2⟩
              obtain ⟨R, HR⟩ : ∃ R, Hid (R = (⟨(Lib.repeatL (⟨#[62, 32]⟩ : ByteArray).data.toList n).toArray⟩ : ByteArray)) := ⟨_, Lib.hid rfl⟩
              rw [← HR.out]
              have hRs : R.size ≤ 18 := by
                rw [HR.out]
                show (Lib.repeatL _ n).length ≤ 18
                rw [Lib.repeatL_length]
                show n * 2 ≤ 18
                omega
              have hds := lzDoc_size n fw ls j hn9 (fun x hx => (HA.out.good x hx).le) (by have := HLl.out; omega)
              have HT := Lib.hid (lzDoc_succ (n := n) (fw := fw) (R := R) HJ.out (by rw [HK2.out]; exact HR.out))
              have HA2 := Lib.hid (HA.out.same' hS2)
              clear c1
              go_wp2_with (at_builtin; refine ap_str rfl _ _ rfl _ j _ rfl (ownsRow_keep HA2.out.row ((Mods.refl (fun _ => False) w2).alloc _) (fun _ _ x => x)) w2.heap.size 1 l rfl ((Blk.newAt _ _ rfl).cell 0) (by omega) ?_)
              intro g1 c1' w3 h3 hg3 hl3
              try rw [← List.map_take] at h3
              have hN := HA2.out.step HJ.out HG.out h3 hg3 hl3
              clear h3 hg3 hl3
              go_wp2_with fail
              go_roundg (m - (j + 1))
              case measure => have := HK.out; omega
              case rel => exact ⟨j + 1, rfl, hlt, by rw [Int.natCast_succ], by rw [← HT.out], hN⟩
            · obtain ⟨b, hb⟩ : ∃ b, fw[j]? = some b := ⟨_, List.getElem?_eq_getElem (by have := HLf.out; omega)⟩
              have c2' := HB.out j b hb
              have c2 : wr.cell? (a1.add j) = some (.int .u8 b.toNat) := (World.cell?_of_block (HA.out.same.block _ (World.block_lt_of_cell? _ _ c2') (fun x => x))).trans c2'
              clear c2'
              have hbl := b.toNat_lt
              obtain ⟨K, HK3⟩ : ∃ K, Hid (K = b.toNat % (n + 1)) := ⟨_, Lib.hid rfl⟩
              have HK2 : Hid (lzK n fw j = K) := by
                show _ = _
                rw [HK3.out]
                unfold lzK
                rw [if_neg (by omega), hb]
                rfl
              have hKn : K ≤ n := by
                have := Nat.mod_lt b.toNat (show 0 < n + 1 by omega)
                rw [HK3.out]
                omega
              have wb : IntKind.i64.wrap (b.toNat : Int) = (b.toNat : Int) := IntWalk.i64_in _ (by omega)
              have wn1 : IntKind.i64.wrap ((n : Int) + 1) = (n : Int) + 1 := IntWalk.i64_in _ (by omega)
              have wn2 : ((n : Int) + 1 == 0) = false := by rw [beq_eq_false_iff_ne]; omega
              have wn3 : ¬ ((n : Int) + 1 = 0) := by omega
              have wK : (b.toNat : Int).tmod ((n : Int) + 1) = (K : Int) := by
                rw [Int.tmod_eq_emod_of_nonneg (by omega), HK3.out]
                norm_cast
              clear hb
              go_wp2_with fail
              refine (only_any l abc9 40 wr (by omega) (by omega)).mono ?_
              rintro e w' ⟨rfl, rfl⟩
              rw [hon]
              go_wp2_with fail
              refine (filled_any l wr (by omega)).mono ?_
              rintro e w' ⟨rfl, rfl⟩
              rw [hf]
              clear hon hf
              go_wp2_with fail
              first | go_quiet (fail) | skip
              go_wp2_with fail
              refine (rep_call ⟨#[62, 32]⟩ K (by decide) (by omega) wr wr (Mods.refl _ _)).mono ?_
              rintro e w2 ⟨rfl, hS2⟩
              obtain ⟨R, HR⟩ : ∃ R, Hid (R = (⟨(Lib.repeatL (⟨#[62, 32]⟩ : ByteArray).data.toList K).toArray⟩ : ByteArray)) := ⟨_, Lib.hid rfl⟩
              rw [← HR.out]
              have hRs : R.size ≤ 18 := by
                rw [HR.out]
                show (Lib.repeatL _ K).length ≤ 18
                rw [Lib.repeatL_length]
                show K * 2 ≤ 18
                omega
              have hds := lzDoc_size n fw ls j hn9 (fun x hx => (HA.out.good x hx).le) (by have := HLl.out; omega)
              have HT := Lib.hid (lzDoc_succ (n := n) (fw := fw) (R := R) HJ.out (by rw [HK2.out]; exact HR.out))
              have HA2 := Lib.hid (HA.out.same' hS2)
              clear c1
              go_wp2_with (at_builtin; refine ap_str rfl _ _ rfl _ j _ rfl (ownsRow_keep HA2.out.row ((Mods.refl (fun _ => False) w2).alloc _) (fun _ _ x => x)) w2.heap.size 1 l rfl ((Blk.newAt _ _ rfl).cell 0) (by omega) ?_)
              intro g1 c1' w3 h3 hg3 hl3
              try rw [← List.map_take] at h3
              have hN := HA2.out.step HJ.out HG.out h3 hg3 hl3
              clear h3 hg3 hl3
              go_wp2_with fail
              go_roundg (m - (j + 1))
              case measure => have := HK.out; omega
              case rel => exact ⟨j + 1, rfl, hlt, by rw [Int.natCast_succ], by rw [← HT.out], hN⟩
    · have hjm : j = m := by omega
      subst hjm
      have hll := HLl.out
      subst hll
      have w1 : ¬ (ls.length : Int) < ls.length := by omega
      have hrow := hA.row
      rw [List.take_length] at hrow
      obtain ⟨g1, c1, he1, _, _, _⟩ := ownsRow_form hrow hm0
      subst he1
      have HGood : Hid (∀ l ∈ ls, Ltrs l) := by
        have := hA.good
        rw [List.take_length] at this
        exact this
      have HS := Lib.hid hA.same
      have hjs := joinT_small ls (fun s hs => (HGood.out s hs).le)
      have HJ := Lib.hid (join_call g1 c1 ls wr hm0 (by omega) (by omega) hrow)
      have HD := Lib.hid (lzDoc_all n fw ls)
      have HH := Lib.hid (fun V => html_quotes n (lzKs n fw ls.length) ls V (lz_in hm0 (by omega) hn9 HGood.out))
      obtain ⟨R1, HR1⟩ : ∃ R, Hid (R = (⟨(Lib.repeatL (⟨#[60, 98, 108, 111, 99, 107, 113, 117, 111, 116, 101, 62, 10]⟩ : ByteArray).data.toList n).toArray⟩ : ByteArray)) := ⟨_, Lib.hid rfl⟩
      obtain ⟨R2, HR2⟩ : ∃ R, Hid (R = (⟨(Lib.repeatL (⟨#[60, 47, 98, 108, 111, 99, 107, 113, 117, 111, 116, 101, 62, 10]⟩ : ByteArray).data.toList n).toArray⟩ : ByteArray)) := ⟨_, Lib.hid rfl⟩
      have hR1 : R1.size ≤ 130 := by
        rw [HR1.out]
        show (Lib.repeatL _ n).length ≤ 130
        rw [Lib.repeatL_length]
        show n * 13 ≤ 130
        omega
      have hR2 : R2.size ≤ 130 := by
        rw [HR2.out]
        show (Lib.repeatL _ n).length ≤ 130
        rw [Lib.repeatL_length]
        show n * 14 ≤ 130
        omega
      have HWant := Lib.hid (lz_want (ls := ls) HR1.out HR2.out)
      clear hA hrow
      go_wp2_with fail
      refine (rep_call _ n (by decide) hn9 wr wr (Mods.refl _ _)).mono ?_
      rintro e w2 ⟨rfl, hS2⟩
      rw [← HR1.out]
      go_wp2_with fail
      refine (HJ.out w2 hS2).mono ?_
      rintro e w3 ⟨rfl, hS3⟩
      go_wp2_with fail
      refine (rep_call _ n (by decide) hn9 w3 w3 (Mods.refl _ _)).mono ?_
      rintro e w4 ⟨rfl, hS4⟩
      rw [← HR2.out]
      go_wp2_with fail
      rw [HD.out]
      refine (HH.out w4).mono ?_
      rintro e w5 ⟨rfl, hS5⟩
      go_wp2_with fail
      go_ret
      refine ⟨congrArg (fun b => Ending.returned (.bool b)) ?_, ((HS.out.trans (hS2.trans hS3)).trans hS4).trans hS5⟩
      rw [HWant.out]
      simp
end Go.Proofs.YtdnlfdppjfjncaaGreatDoor

/- FnLazy answers true: all ways together. -/
namespace Go.Proofs.YtdnlfdppjfjncaaGreatDoor
open Go Go.RowKit Go.Proofs

theorem law_lazy (d : UInt8) (v1 v2 : Value) (fw : List UInt8) (ls : List ByteArray) (w : World) (h1 : BytsAt w v1 fw) (h2 : StrsAt w v2 ls) :
    Calls Tryz.prog 7 #[.int .u8 d.toNat, v1, v2] w fun e w' => e = .returned (.bool true) ∧ Same w w' := by
  obtain ⟨a1, cap1, he1⟩ := h1.form
  obtain ⟨a2, cap2, he2⟩ := h2.form
  by_cases hbig : 2147483647 < fw.length
  · subst he1 he2
    exact lazy_big d fw ls w a1 a2 cap1 cap2 (by omega)
  · have w0 : ¬ (2147483647 : Int) < fw.length := by omega
    have HF := Lib.hid (zzFits2_any _ ls w h2)
    cases hfit : fitsB ls with
    | false =>
      rw [hfit] at HF
      subst he1 he2
      exact lazy_unfit d fw ls w a1 a2 cap1 cap2 w0 HF
    | true =>
      rw [hfit] at HF
      obtain ⟨_, hsz⟩ := fitsB_out hfit
      have hd := d.toNat_lt
      have wd : IntKind.i64.wrap (d.toNat : Int) = (d.toNat : Int) := IntWalk.i64_in _ (by omega)
      have wn : (d.toNat : Int).tmod 10 = ((d.toNat % 10 : Nat) : Int) := by rw [Int.tmod_eq_emod_of_nonneg (by omega)]; omega
      by_cases hl0 : ls.length = 0
      · subst he1 he2
        exact lazy_none d.toNat (d.toNat % 10) fw.length ls.length w a1 a2 cap1 cap2 w0 HF wd wn (by rw [beq_iff_eq]; omega)
      · by_cases h20 : 20 < ls.length
        · subst he1 he2
          exact lazy_many d.toNat (d.toNat % 10) fw.length ls.length w a1 a2 cap1 cap2 w0 HF wd wn (by rw [beq_eq_false_iff_ne]; omega) (by omega)
        · by_cases hne : fw.length = ls.length
          · rcases h1 with ⟨h, _⟩ | ⟨b1, c1, e1, g1⟩
            · rw [h] at hne
              exact absurd hne.symm hl0
            · rcases h2 with ⟨_, h⟩ | ⟨b2, c2, e2, g2⟩
              · rw [h] at hl0
                exact absurd rfl hl0
              · clear he1 he2
                subst e1 e2
                have := lazy_main d.toNat (d.toNat % 10) ls.length fw ls w b1 b2 c1 c2 (by omega) HF wd wn (by rw [beq_eq_false_iff_ne]; omega) (by omega) g1 g2 hne rfl (by omega) (by omega) hsz
                rw [hne]
                exact this
          · subst he1 he2
            exact lazy_other d.toNat (d.toNat % 10) fw.length ls.length w a1 a2 cap1 cap2 w0 HF wd wn (by rw [beq_eq_false_iff_ne]; omega) (by omega) (by simp only [bne_iff_ne]; omega)

theorem law_lazyN (m : Nat) (hm : m < 256) (v1 v2 : Value) (fw : List UInt8) (ls : List ByteArray) (w : World) (h1 : BytsAt w v1 fw) (h2 : StrsAt w v2 ls) :
    Calls Tryz.prog 7 #[.int .u8 m, v1, v2] w fun e w' => e = .returned (.bool true) ∧ Same w w' := by
  have h := law_lazy (UInt8.ofNat m) v1 v2 fw ls w h1 h2
  have e : (UInt8.ofNat m).toNat = m := by rw [UInt8.toNat_ofNat']; omega
  rw [e] at h
  exact h
end Go.Proofs.YtdnlfdppjfjncaaGreatDoor
