/- Some texts of one proof, put into one file: LawB, LawC, LawS, Law7, LawS2, LawL, Rep, LawZ. -/
import Derived.Laws.IdiomStrings
import Derived.Shelf.Strings.Repeat
import Derived.Test.YtdnlfdppjfjncaaGreatDoorProg
import Derived.KernelRfl
import GoSem.Claim
import Derived.Deep.RegionHeld3
import Derived.Test.YtdnlfdppjfjncaaGreatDoorSt5
import Derived.Test.YtdnlfdppjfjncaaGreatDoorSt6
import Derived.Test.YtdnlfdppjfjncaaGreatDoorLz2
/- The laws' own functions over bytes: slashed, times, full, ascii, plain. -/
namespace Go.Proofs.YtdnlfdppjfjncaaGreatDoor
open Go Go.RowKit Go.Proofs

/-- append of a byte to a row of the call's own (from block B on). -/
theorem ap_u8 {w : World} {ops : Array Oper} {rest : List Oper} {o : Oper} {a : Act} {Q : Exit → Act → World → Prop} (hgd : o.guard = none) (s x : Operand) (ho : o.op = .call { callee := .builtin .append, args := #[s, x], argTypes := #[35, 35] })
    (B : Nat) (hB : B ≤ w.heap.size) (v : Value) (n : Nat) (xs : List Value) (hs : a.eval s = v) (hown : w.ownsRow B 5 1 v n xs)
    (b c : Nat) (u : Int) (hx : a.eval x = .slice (some ⟨b, 0, none⟩) 1 c) (hu : w.cell? ⟨b, 0, none⟩ = some (.int .u8 u)) (hn : n ≤ 1000000)
    (h : ∀ g cap w', w'.ownsRow B 5 1 (.slice (some ⟨g, 0, none⟩) (n + 1) cap) (n + 1) (xs ++ [.int .u8 u]) → w.grownBy w' v.ownBlock → wpList Tryz.prog ops Q rest (a.put o.dst (.slice (some ⟨g, 0, none⟩) (n + 1) cap)) w') : wpList Tryz.prog ops Q (o :: rest) a w := by
  have hi : (Tryz.prog.info? 5).map (fun i => (i.zero, i.size, i.bytes)) = some (some (.int .u8 0), 1, 1) := by kernel_rfl
  obtain ⟨i0, hi0, hz⟩ := Option.map_eq_some_iff.1 hi
  simp only [Prod.mk.injEq] at hz
  obtain ⟨hz0, hz1, hz2⟩ := hz
  refine wpList_append_lies w hgd s x 35 ho B 5 i0 (.int .u8 0) 1 1 Tryz.underlying35 hi0 hz0 hz1 hz2 rfl (by decide) v n xs hs hown ⟨b, 0, none⟩ 1 c [.int .u8 u] hx rfl ?_ ?_ (by omega) (by unfold maxLen; omega) ?_ hB _ rfl (fun g cap w' h2 h3 _ _ => h g cap w' h2 h3)
  · intro j y hy
    match j, hy with
    | 0, hy => simp at hy; subst hy; simpa [Addr.add_lit] using hu
  · intro y hy; simp at hy; subst hy; rfl
  · omega

theorem grown_below {w W w' : World} {v : Value} {n : Nat} {xs : List Value} (hm : Below w.heap.size w W) (hown : W.ownsRow w.heap.size 5 1 v n xs) (h : W.grownBy w' v.ownBlock) : Below w.heap.size w w' :=
  hm.grown h hm.size (fun k hk => (hown.lt k hk).1)

set_option maxHeartbeats 4000000 in
theorem slashed_any (s : ByteArray) (w : World) (hs : s.size ≤ 400000) :
    Calls Tryz.prog 31 #[.string s] w fun e w' => e = .returned (.string (slT s)) ∧ Same w w' := by
  go_enter Tryz.func31, Tryz.ntmps31
  go_wp2_with fail
  generalize hW : (w.alloc _ : World) = W
  have hm : Below w.heap.size w W := by subst hW; exact (Below.refl _ w).alloc (Nat.le_refl _) _
  have hown : W.ownsRow w.heap.size 5 1 (.slice (some ⟨w.heap.size, 0, none⟩) 0 0) (slL (s.data.toList.take 0)).length (Lib.byteCells (slL (s.data.toList.take 0))) := by
    subst hW; exact World.ownsRow_lit w #[] 0 (Nat.le_refl _) (Nat.zero_le _) rfl
  clear hW
  go_loopg [3, 4] s.size (fun k v i wr => ∃ j g cap : Nat, i = .int .i64 j ∧ k = s.size - j ∧ j ≤ s.size ∧ v = .slice (some ⟨g, 0, none⟩) (slL (s.data.toList.take j)).length cap ∧ Below w.heap.size w wr ∧ wr.ownsRow w.heap.size 5 1 (.slice (some ⟨g, 0, none⟩) (slL (s.data.toList.take j)).length cap) (slL (s.data.toList.take j)).length (Lib.byteCells (slL (s.data.toList.take j))))
  case atStart => exact ⟨0, w.heap.size, 0, rfl, rfl, Nat.zero_le _, rfl, hm, hown⟩
  case round =>
    clear hm hown
    obtain ⟨j, g, cap, rfl, rfl, hj, rfl, hm, hown⟩ := hrel
    have hl := (slL_len (s.data.toList.take j)).2
    have hl2 : (s.data.toList.take j).length ≤ j := List.length_take_le _ _
    have HM := Lib.hid hm
    have hz := hm.size
    by_cases hlt : j < s.size
    · have w1 : (j : Int) < s.size := by omega
      have w2 : (0 : Int) ≤ j := by omega
      have w3 : IntKind.i64.wrap ((j : Int) + 1) = (j : Int) + 1 := IntWalk.i64_in _ (by omega)
      have hsucc := slL_take s j hlt
      have HS := Lib.hid hsucc
      have hn1 : (slL (s.data.toList.take j)).length ≤ 800000 := by omega
      clear hsucc hm hl hl2
      generalize hL : slL (s.data.toList.take j) = L at *
      clear hL
      by_cases hp : punct s[j] = true
      · have HP : Hid (slB s[j] = [92] ++ [s[j]]) := by show slB _ = _; unfold slB; rw [if_pos hp]; rfl
        go_wp2_with fail
        refine (spec_IsPunct s[j] wr).mono ?_
        rintro e w' ⟨rfl, rfl⟩
        rw [hp]
        clear hp
        go_wp2_with (at_builtin; refine ap_u8 rfl _ _ rfl w.heap.size ?c0 _ L.length (Lib.byteCells L) rfl (hown.alloc _) wr.heap.size 1 92 rfl ((Blk.newAt _ _ rfl).cell 0) ?c1 ?_)
        case c0 => simp; omega
        case c1 => omega
        intro g1 cap1 wa hown1 hg1
        have hm1 : Below w.heap.size w wa := grown_below (HM.out.alloc (by omega) _) (hown.alloc _) hg1
        have hz1 := hm1.size
        clear hown hg1
        go_wp2_with (at_builtin; refine ap_u8 rfl _ _ rfl w.heap.size ?c0 _ (L.length + 1) (Lib.byteCells L ++ [.int .u8 92]) rfl (hown1.alloc _) wa.heap.size 1 (s[j].toNat : Int) rfl ((Blk.newAt _ _ rfl).cell 0) ?c1 ?_)
        case c0 => simp; omega
        case c1 => omega
        intro g2 cap2 wb hown2 hg2
        have hm2 : Below w.heap.size w wb := grown_below (hm1.alloc (by omega) _) (hown1.alloc _) hg2
        have he : slL (s.data.toList.take (j + 1)) = L ++ [92] ++ [s[j]] := by rw [HS.out, HP.out, List.append_assoc]
        have hcells : Lib.byteCells L ++ [Value.int .u8 92, Value.int .u8 (s[j].toNat : Int)] = Lib.byteCells (slL (s.data.toList.take (j + 1))) := by rw [he]; simp [Lib.byteCells]
        have hlen : L.length + 1 + 1 = (slL (s.data.toList.take (j + 1))).length := by rw [he]; simp
        rw [hcells] at hown2
        rw [hlen] at hown2 ⊢
        clear hcells hlen he hown1 hg2 hm1
        go_wp2_with fail
        go_roundg (s.size - (j + 1))
        case measure => omega
        case rel => exact ⟨j + 1, g2, cap2, rfl, rfl, by omega, rfl, hm2, hown2⟩
      · have hp' : punct s[j] = false := by simpa using hp
        have HP : Hid (slB s[j] = [s[j]]) := by show slB _ = _; unfold slB; rw [if_neg hp]
        go_wp2_with fail
        refine (spec_IsPunct s[j] wr).mono ?_
        rintro e w' ⟨rfl, rfl⟩
        rw [hp']
        clear hp hp'
        go_wp2_with (at_builtin; refine ap_u8 rfl _ _ rfl w.heap.size ?c0 _ L.length (Lib.byteCells L) rfl (hown.alloc _) wr.heap.size 1 (s[j].toNat : Int) rfl ((Blk.newAt _ _ rfl).cell 0) ?c1 ?_)
        case c0 => simp; omega
        case c1 => omega
        intro g2 cap2 wb hown2 hg2
        have hm2 : Below w.heap.size w wb := grown_below (HM.out.alloc (by omega) _) (hown.alloc _) hg2
        have he : slL (s.data.toList.take (j + 1)) = L ++ [s[j]] := by rw [HS.out, HP.out]
        have hcells : Lib.byteCells L ++ [Value.int .u8 (s[j].toNat : Int)] = Lib.byteCells (slL (s.data.toList.take (j + 1))) := by rw [he]; simp [Lib.byteCells]
        have hlen : L.length + 1 = (slL (s.data.toList.take (j + 1))).length := by rw [he]; simp
        rw [hcells] at hown2
        rw [hlen] at hown2 ⊢
        clear hcells hlen he hown hg2
        go_wp2_with fail
        go_roundg (s.size - (j + 1))
        case measure => omega
        case rel => exact ⟨j + 1, g2, cap2, rfl, rfl, by omega, rfl, hm2, hown2⟩
    · have w1 : ¬ ((j : Int) < s.size) := by omega
      have hjs : j = s.size := by omega
      have hall : s.data.toList.take j = s.data.toList := List.take_of_length_le (by rw [hjs]; exact Nat.le_refl _)
      rw [hall] at hown ⊢
      clear hall hl hl2 hm
      have hcv := run_convert_bytes_back (P := Tryz.prog) wr 35 9 5 ⟨g, 0, none⟩ cap (slL s.data.toList) Tryz.underlying35 Tryz.underlying5 Tryz.underlying9 (fun i hi => by
        have h1 := hown.cellAt i (by omega)
        rw [Addr.add_lit, Nat.zero_add, h1]
        simp [Lib.byteCells, hi])
      go_wp2_with fail
      go_ret
      exact ⟨rfl, Below.mods (S := fun _ => False) HM.out (fun k hk hk2 => absurd hk (by omega))⟩
end Go.Proofs.YtdnlfdppjfjncaaGreatDoor

/- The laws' own functions: times, full, ascii, plain. -/
namespace Go.Proofs.YtdnlfdppjfjncaaGreatDoor
open Go Go.RowKit Go.Proofs

/-- A text n times. -/
def repT (s : ByteArray) (n : Nat) : ByteArray := strL (List.replicate n s.data.toList).flatten

theorem repT_succ (s : ByteArray) (n : Nat) : repT s (n + 1) = repT s n ++ s := by
  unfold repT
  rw [List.replicate_succ', List.flatten_append, ← strL_app]
  have : strL (List.flatten [s.data.toList]) = s := by simp [strL]
  rw [this]
theorem repT_size (s : ByteArray) : ∀ n, (repT s n).size = n * s.size
  | 0 => by simp [repT, strL_size]
  | n + 1 => by rw [repT_succ, ByteArray.size_append, repT_size s n, Nat.succ_mul]

set_option maxHeartbeats 4000000 in
theorem times_any (s : ByteArray) (n : Nat) (w : World) (hs : s.size ≤ 100) (hn : n ≤ 1000) :
    Calls Tryz.prog 23 #[.string s, .int .i64 n] w fun e w' => e = .returned (.string (repT s n)) ∧ w = w' := by
  have h0 : repT s 0 = (⟨#[]⟩ : ByteArray) := rfl
  have H0 := Lib.hid h0
  clear h0
  go_enter Tryz.func23, Tryz.ntmps23
  go_wp2_with fail
  go_loopg [5, 7] n (fun k o i wr => ∃ j : Nat, o = .string (repT s j) ∧ i = .int .i64 j ∧ k = n - j ∧ j ≤ n ∧ w = wr)
  case atStart => exact ⟨0, by rw [H0.out], rfl, rfl, Nat.zero_le _, rfl⟩
  case round =>
    obtain ⟨j, rfl, rfl, rfl, hj, rfl⟩ := hrel
    have hz : (repT s j).size ≤ 100000 := by
      rw [repT_size]
      exact Nat.le_trans (Nat.mul_le_mul hj hs) (by omega)
    by_cases hlt : j < n
    · have w1 : (j : Int) < n := by omega
      have w3 : IntKind.i64.wrap ((j : Int) + 1) = (j : Int) + 1 := IntWalk.i64_in _ (by omega)
      have HS := Lib.hid (repT_succ s j)
      go_wp2_with fail
      go_roundg (n - (j + 1))
      case measure => omega
      case rel => exact ⟨j + 1, by rw [HS.out], rfl, rfl, by omega, rfl⟩
    · have w1 : ¬ ((j : Int) < n) := by omega
      have hjn : j = n := by omega
      subst hjn
      go_wp2_with fail
      go_ret
      exact ⟨rfl, rfl⟩

set_option maxHeartbeats 4000000 in
theorem full_any (s : ByteArray) (w : World) (hs : s.size ≤ 2147483647) :
    Calls Tryz.prog 30 #[.string s] w fun e w' => e = .returned (.bool (fillOk s)) ∧ w = w' := by
  by_cases h : 0 < s.size
  · have hf : fillOk s = ((!((s[0].toNat : Int) == 32)) && (!(((s[s.size - 1]'(by omega)).toNat : Int) == 32))) := by unfold fillOk; rw [dif_pos h]
    have HF := Lib.hid hf
    clear hf
    have e0 : s.toList.isEmpty = false := bs_ne h
    have e0' : (!s.toList.isEmpty) = true := by rw [e0]; rfl
    have w1 : (0 : Int) < s.size := by omega
    have w2 : IntKind.i64.wrap ((s.size : Int) - 1) = (s.size : Int) - 1 := IntWalk.i64_in _ (by omega)
    have w3 : (0 : Int) ≤ (s.size : Int) - 1 := by omega
    have w4 : ((s.size : Int) - 1).toNat = s.size - 1 := by omega
    have w5 : (s.size : Int) - 1 < s.size := by omega
    go_enter Tryz.func30, Tryz.ntmps30
    go_wp2_with fail
    all_goals
      go_ret
      refine ⟨congrArg (fun b => Ending.returned (.bool b)) ?_, rfl⟩
      rw [HF.out]
      first | rfl | simp_all
  · have hf : fillOk s = false := by unfold fillOk; rw [dif_neg h]
    have hz : s = ⟨#[]⟩ := by
      apply ByteArray.ext_getElem
      · show s.size = 0; omega
      · intro i h1 h2; omega
    subst hz
    have HF := Lib.hid hf
    clear hf
    go_enter Tryz.func30, Tryz.ntmps30
    go_wp2_with fail
    go_ret
    exact ⟨by rw [HF.out]; rfl, rfl⟩

set_option maxHeartbeats 4000000 in
theorem ascii_any (s : ByteArray) (w : World) (hs : s.size ≤ 2147483647) :
    Calls Tryz.prog 22 #[.string s, .bool false] w fun e w' => e = .returned (.bool (prFrom s 0)) ∧ w = w' := by
  go_enter Tryz.func22, Tryz.ntmps22
  go_wp2_with fail
  go_loopg [5] s.size (fun k v wr => ∃ i : Nat, v = .int .i64 i ∧ k = s.size - i ∧ i ≤ s.size ∧ prFrom s i = prFrom s 0 ∧ w = wr)
  case atStart => exact ⟨0, rfl, rfl, Nat.zero_le _, rfl, rfl⟩
  case round =>
    obtain ⟨i, rfl, rfl, hi, hp, rfl⟩ := hrel
    have HP := Lib.hid hp
    clear hp
    by_cases hlt : i < s.size
    · have w1 : (i : Int) < s.size := by omega
      have w2 : (0 : Int) ≤ i := by omega
      have w3 : IntKind.i64.wrap ((i : Int) + 1) = (i : Int) + 1 := IntWalk.i64_in _ (by omega)
      have hun : prFrom s i = (32 ≤ s[i].toNat && s[i].toNat ≤ 126 && prFrom s (i + 1)) := by rw [prFrom, dif_pos hlt]
      have HU := Lib.hid hun
      clear hun
      by_cases hc : 32 ≤ s[i].toNat ∧ s[i].toNat ≤ 126
      · have c1 : ¬ ((s[i].toNat : Int) < 32) := by omega
        have c2 : ¬ ((126 : Int) < s[i].toNat) := by omega
        have Hc := Lib.hid hc
        clear hc
        go_wp2_with fail
        go_roundg (s.size - (i + 1))
        case measure => omega
        case rel => exact ⟨i + 1, by simp, rfl, by omega, by rw [← HP.out, HU.out]; simp [Hc.out.1, Hc.out.2], rfl⟩
      · have hf : prFrom s 0 = false := by
          rw [← HP.out, HU.out]
          by_cases h1 : 32 ≤ s[i].toNat
          · have : ¬ s[i].toNat ≤ 126 := fun h => hc ⟨h1, h⟩
            simp [this]
          · simp [h1]
        have HF := Lib.hid hf
        by_cases h1 : (s[i].toNat : Int) < 32
        · clear hc hf
          go_wp2_with fail
          go_ret
          exact ⟨by rw [HF.out]; rfl, rfl⟩
        · have h2 : (126 : Int) < s[i].toNat := by omega
          clear hc hf
          go_wp2_with fail
          go_ret
          exact ⟨by rw [HF.out]; rfl, rfl⟩
    · have hin : i = s.size := by omega
      have w1 : ¬ ((i : Int) < s.size) := by omega
      have ht : prFrom s 0 = true := by rw [← HP.out, hin, prFrom, dif_neg (Nat.lt_irrefl _)]
      have HT := Lib.hid ht
      clear ht
      go_wp2_with fail
      go_ret
      exact ⟨by rw [HT.out]; rfl, rfl⟩

theorem plain_any (w : World) :
    Calls Tryz.prog 25 #[] w fun e w' => e = .returned (.agg #[.bool false, .bool false, .bool false, .bool false, .bool false, .bool false, .bool false, .bool false, .bool false, .bool false]) ∧ Same w w' := by
  go_enter Tryz.func25, Tryz.ntmps25
  go_wp2_with fail
  refine bodyPost_ret (v := .agg #[.bool false, .bool false, .bool false, .bool false, .bool false, .bool false, .bool false, .bool false, .bool false, .bool false]) (by simp [results, Tryz.results25, go_sem]) rfl ⟨rfl, ?_⟩
  exact (Mods.refl _ w).alloc _
end Go.Proofs.YtdnlfdppjfjncaaGreatDoor

/- The plain law of FnSeven, and the law's walk. -/
namespace Go.Proofs.YtdnlfdppjfjncaaGreatDoor
open Go Go.RowKit Go.Proofs

theorem html_of (s : ByteArray) (w : World) (hs : OneLine s) (he : Escd s 0) (hl : ((scan s 0 0).flatMap outPc).length ≤ 9000000) :
    Calls Tryz.prog 17 #[.agg #[.bool false, .bool false, .bool false, .bool false, .bool false, .bool false, .bool false, .bool false, .bool false, .bool false], .string s] w fun e w' => e = .returned (.string (strL (pOpen ++ (scan s 0 0).flatMap outPc ++ pClose))) ∧ Same w w' := by
  have hsm := hs.small
  refine (impl_HTML s w hs (scan s 0 0) (plan_escd s (by omega) he) ?_ ?_ (scan_no_auto s _ 0 0 rfl)).mono ?_
  · intro i
    have h1 : ((scan s 0 0).take i).flatMap outPc ++ ((scan s 0 0).drop i).flatMap outPc = (scan s 0 0).flatMap outPc := by
      rw [← List.flatMap_append, List.take_append_drop]
    have h2 := congrArg List.length h1
    rw [List.length_append] at h2
    have h3 : pOpen.length = 3 := rfl
    simp only [List.nil_append, List.length_append]
    omega
  · intro u hu
    have := plan_sizes (by omega) he u hu
    omega
  · rintro e w' ⟨rfl, hm⟩
    exact ⟨rfl, hm⟩

theorem dull_92 {c : UInt8} (h : dull c = true) : c ≠ 92 := by rintro rfl; revert h; decide

theorem escd_dull (s : ByteArray) : ∀ (pre r : List UInt8) (k : Nat), (∀ c ∈ pre, dull c = true) → from_ s k = pre ++ r → Escd s (k + pre.length) → Escd s k
  | [], _, k, _, _, h => h
  | c :: pre, r, k, hd, hf, h => by
    obtain ⟨h1, e1, h2⟩ := from_cons hf
    rw [Escd, dif_pos h1]
    exact Or.inl ⟨by rw [e1]; exact hd c List.mem_cons_self, escd_dull s pre r (k + 1) (fun x hx => hd x (List.mem_cons_of_mem _ hx)) h2 (by rw [List.length_cons] at h; rwa [show k + 1 + pre.length = k + (pre.length + 1) by omega])⟩

theorem scan_dull (s : ByteArray) (e : Nat) : ∀ (pre r : List UInt8) (k : Nat), (∀ c ∈ pre, dull c = true) → from_ s k = pre ++ r → scan s k e = scan s (k + pre.length) e
  | [], _, k, _, _ => rfl
  | c :: pre, r, k, hd, hf => by
    obtain ⟨h1, e1, h2⟩ := from_cons hf
    have h92 : s[k] ≠ 92 := by rw [e1]; exact dull_92 (hd c List.mem_cons_self)
    rw [scan, dif_pos h1, if_neg h92, scan_dull s e pre r (k + 1) (fun x hx => hd x (List.mem_cons_of_mem _ hx)) h2, List.length_cons, show k + 1 + pre.length = k + (pre.length + 1) by omega]

def marks (n : Nat) : List UInt8 := List.replicate n 35 ++ [32]
theorem marks_len (n : Nat) : (marks n).length = n + 1 := by simp [marks]
theorem marks_dull (n : Nat) : ∀ c ∈ marks n, dull c = true := by
  intro c hc
  simp only [marks, List.mem_append, List.mem_replicate, List.mem_singleton] at hc
  rcases hc with ⟨_, rfl⟩ | rfl <;> decide
theorem marks_esc (n : Nat) : (marks n).flatMap escB = marks n := by
  have : ∀ m, (List.replicate m (35 : UInt8)).flatMap escB = List.replicate m 35 := by
    intro m
    induction m with
    | zero => rfl
    | succ m ih => rw [List.replicate_succ, List.flatMap_cons, ih]; rfl
  unfold marks
  rw [List.flatMap_append, this]
  rfl

def sevenT (n : Nat) (t : ByteArray) : ByteArray := strL (marks n ++ slL t.data.toList)
theorem sevenT_list (n : Nat) (t : ByteArray) : (sevenT n t).data.toList = marks n ++ slL t.data.toList := by simp [sevenT, strL]
theorem sevenT_size (n : Nat) (t : ByteArray) : (sevenT n t).size = n + 1 + (slT t).size := by
  have : (slT t).size = (slL t.data.toList).length := by show (slL t.data.toList).toArray.size = _; simp
  rw [this, sevenT, strL_size, List.length_append, marks_len]

theorem from_app {s : ByteArray} {a b : List UInt8} (h : s.data.toList = a ++ b) : from_ s a.length = b := by
  unfold from_
  rw [h, List.drop_append_of_le_length (Nat.le_refl _), List.drop_length, List.nil_append]

theorem sevenT_line (n : Nat) (t : ByteArray) (hn : 7 ≤ n) (hn2 : n ≤ 1000) (hp : prFrom t 0 = true) (hf : fillOk t = true) (hs : t.size ≤ 400000) : OneLine (sevenT n t) := by
  obtain ⟨h0, hf1, hf2⟩ := fill_first hf
  have hO := oneLine_sl t hp hf hs
  have hsz := sevenT_size n t
  have hs2 := slT_size t
  have hpos : 0 < (sevenT n t).size := by omega
  have hl := sevenT_list n t
  have hget : ∀ i (hi : i < (sevenT n t).size), i < n → (sevenT n t)[i] = 35 := by
    intro i hi hin
    have hg := get_of hi
    rw [hl, List.getElem?_append_left (by rw [marks_len]; omega)] at hg
    unfold marks at hg
    rw [List.getElem?_append_left (by simpa using hin), List.getElem?_replicate, if_pos hin] at hg
    exact (Option.some.inj hg).symm
  have htail : ∀ i (hi : i < (sevenT n t).size) (h2 : n + 1 ≤ i), (sevenT n t)[i] = (slT t)[i - (n + 1)]'(by omega) := by
    intro i hi h2
    have hg := get_of hi
    rw [hl, List.getElem?_append_right (by rw [marks_len]; omega), marks_len, ← slT_list] at hg
    have hg2 := get_of (s := slT t) (i := i - (n + 1)) (by omega)
    rw [hg2] at hg
    exact (Option.some.inj hg).symm
  have hmid : ∀ i (hi : i < (sevenT n t).size), i = n → (sevenT n t)[i] = 32 := by
    intro i hi hin
    have hg := get_of hi
    rw [hl, List.getElem?_append_left (by rw [marks_len]; omega)] at hg
    unfold marks at hg
    rw [List.getElem?_append_right (by simp; omega)] at hg
    subst hin
    simp at hg
    exact hg.symm
  have hn' : ∀ k : UInt8, k ≠ 35 → k ≠ 32 → (∀ i (hi : i < (slT t).size), (slT t)[i] ≠ k) → ∀ i (hi : i < (sevenT n t).size), (sevenT n t)[i] ≠ k := by
    intro k h35 h32 h i hi
    rcases Nat.lt_trichotomy i n with h1 | h1 | h1
    · rw [hget i hi h1]; exact h35.symm
    · rw [hmid i hi h1]; exact h32.symm
    · rw [htail i hi h1]; exact h _ _
  have hd35 : ∀ i, i < n → at0 (sevenT n t) i = 35 := fun i hi => by rw [at0_eq (by omega), hget i (by omega) hi]
  have hp3 : p3 (sevenT n t) 0 = 0 := by
    unfold p3 lead
    rw [dif_pos hpos, if_neg (by rw [hget 0 hpos (by omega)]; decide)]
  refine ⟨hpos, by omega, ?_, ?_, hn' 0 (by decide) (by decide) hO.no0, hn' 10 (by decide) (by decide) hO.no10, hn' 13 (by decide) (by decide) hO.no13, ?_, hn' 9 (by decide) (by decide) hO.no9, ?_⟩
  · rw [hget 0 hpos (by omega)]; rfl
  · rw [htail _ (by omega) (by omega)]
    have := hO.last
    simpa only [show (sevenT n t).size - 1 - (n + 1) = (slT t).size - 1 by omega] using this
  · rw [hget 0 hpos (by omega)]; decide
  · right
    intro u hu
    rw [hp3, Nat.zero_add]
    exact hd35 u (by omega)

theorem sevenT_escd (n : Nat) (t : ByteArray) (hp : prFrom t 0 = true) : Escd (sevenT n t) 0 := by
  have hl := sevenT_list n t
  have hsz := sevenT_size n t
  refine escd_dull _ (marks n) (slL t.data.toList) 0 (marks_dull n) (by rw [from_zero, hl]) ?_
  rw [Nat.zero_add]
  exact escd_sl _ t.data.toList _ (by rw [marks_len]; omega) (pr_list hp) (from_app hl)

theorem sevenT_scan (n : Nat) (t : ByteArray) (hp : prFrom t 0 = true) : (scan (sevenT n t) 0 0).flatMap outPc = marks n ++ t.data.toList.flatMap escB := by
  have hl := sevenT_list n t
  have hsz := sevenT_size n t
  rw [scan_dull (sevenT n t) 0 (marks n) (slL t.data.toList) 0 (marks_dull n) (by rw [from_zero, hl]), Nat.zero_add,
    scan_sl _ t.data.toList _ 0 (Nat.zero_le _) (by rw [marks_len]; omega) (pr_list hp) (from_app hl), ext_list, hl, List.drop_zero, Nat.sub_zero, List.take_left', marks_esc]
  rfl
end Go.Proofs.YtdnlfdppjfjncaaGreatDoor

/- FnEscaped answers true. -/
namespace Go.Proofs.YtdnlfdppjfjncaaGreatDoor
open Go Go.RowKit Go.Proofs

theorem paraT_app (t : ByteArray) : (⟨#[60, 112, 62]⟩ : ByteArray) ++ strL (t.data.toList.flatMap escB) ++ (⟨#[60, 47, 112, 62, 10]⟩ : ByteArray) = paraT (htmlT t) := by
  apply ByteArray.ext
  simp [strL, paraT, htmlT, pOpen, pClose]

set_option maxHeartbeats 4000000 in
theorem law_escaped (s : ByteArray) (w : World) :
    Calls Tryz.prog 4 #[.string s] w fun e w' => e = .returned (.bool true) ∧ Same w w' := by
  by_cases hbig : 2147483647 < s.size
  · have w0 : (2147483647 : Int) < s.size := by omega
    go_enter Tryz.func4, Tryz.ntmps4
    go_wp2_with fail
    go_ret
    exact ⟨rfl, Mods.refl _ _⟩
  · have w0 : ¬ (2147483647 : Int) < s.size := by omega
    by_cases hp : (decide (s.size ≤ 200) && prFrom s 0) = true
    · have hs : s.size ≤ 200 := by simp at hp; exact hp.1
      have hpr : prFrom s 0 = true := by simp at hp; exact hp.2
      by_cases hf : fillOk s = true
      · have hlen := escB_len s.data.toList
        have hsz := strL_size (s.data.toList.flatMap escB)
        have e1 : s.data.toList.length = s.size := rfl
        have hb : (strL (s.data.toList.flatMap escB)).size ≤ 1200 := by omega
        clear hlen hsz e1
        have HPT := Lib.hid (paraT_app s)
        go_enter Tryz.func4, Tryz.ntmps4
        go_wp2_with fail
        refine (printable_any s 200 w (by omega)).mono ?_
        rintro e w' ⟨rfl, rfl⟩
        rw [hp]
        go_wp2_with fail
        refine (filled_any s w (by omega)).mono ?_
        rintro e w' ⟨rfl, rfl⟩
        rw [hf]
        go_wp2_with fail
        refine (escaped_any s w (by omega)).mono ?_
        rintro e w1 ⟨rfl, hm1⟩
        go_wp2_with fail
        refine (escaped_html s w1 hpr hf (by omega)).mono ?_
        rintro e w2 ⟨rfl, hm2⟩
        go_wp2_with fail
        refine (EscapeHTML_any s w2 (by omega)).mono ?_
        rintro e w' ⟨rfl, rfl⟩
        clear hp hf hpr
        go_wp2_with fail
        go_ret
        refine ⟨congrArg (fun b => Ending.returned (.bool b)) ?_, hm1.trans hm2⟩
        rw [HPT.out]
        simp
      · have hf' : fillOk s = false := by simpa using hf
        go_enter Tryz.func4, Tryz.ntmps4
        go_wp2_with fail
        refine (printable_any s 200 w (by omega)).mono ?_
        rintro e w' ⟨rfl, rfl⟩
        rw [hp]
        go_wp2_with fail
        refine (filled_any s w (by omega)).mono ?_
        rintro e w' ⟨rfl, rfl⟩
        rw [hf']
        go_wp2_with fail
        go_ret
        exact ⟨rfl, Mods.refl _ _⟩
    · have hp' : (decide (s.size ≤ 200) && prFrom s 0) = false := by simpa using hp
      go_enter Tryz.func4, Tryz.ntmps4
      go_wp2_with fail
      refine (printable_any s 200 w (by omega)).mono ?_
      rintro e w' ⟨rfl, rfl⟩
      rw [hp']
      go_wp2_with fail
      go_ret
      exact ⟨rfl, Mods.refl _ _⟩
end Go.Proofs.YtdnlfdppjfjncaaGreatDoor

/- FnSeven answers true. -/
namespace Go.Proofs.YtdnlfdppjfjncaaGreatDoor
open Go Go.RowKit Go.Proofs

theorem seven_text (n : Nat) (t : ByteArray) : repT ⟨#[35]⟩ n ++ (⟨#[32]⟩ : ByteArray) ++ slT t = sevenT n t := by
  have h : ∀ n, (List.replicate n [(35 : UInt8)]).flatten = List.replicate n 35 := by
    intro n
    induction n with
    | zero => rfl
    | succ n ih => rw [List.replicate_succ, List.flatten_cons, ih]; rfl
  apply ByteArray.ext
  simp [repT, sevenT, strL, slT, marks, h]

theorem seven_want (n : Nat) (t : ByteArray) : (⟨#[60, 112, 62]⟩ : ByteArray) ++ repT ⟨#[35]⟩ n ++ (⟨#[32]⟩ : ByteArray) ++ strL (t.data.toList.flatMap escB) ++ (⟨#[60, 47, 112, 62, 10]⟩ : ByteArray) = strL (pOpen ++ (marks n ++ t.data.toList.flatMap escB) ++ pClose) := by
  have h : ∀ n, (List.replicate n [(35 : UInt8)]).flatten = List.replicate n 35 := by
    intro n
    induction n with
    | zero => rfl
    | succ n ih => rw [List.replicate_succ, List.flatten_cons, ih]; rfl
  apply ByteArray.ext
  simp [repT, strL, marks, h, pOpen, pClose]

set_option maxRecDepth 100000 in
set_option maxHeartbeats 4000000 in
theorem law_seven (m : Nat) (hm : m < 256) (s : ByteArray) (w : World) :
    Calls Tryz.prog 11 #[.int .u8 m, .string s] w fun e w' => e = .returned (.bool true) ∧ Same w w' := by
  by_cases hbig : 2147483647 < s.size
  · have w0 : (2147483647 : Int) < s.size := by omega
    go_enter Tryz.func11, Tryz.ntmps11
    go_wp2_with fail
    go_ret
    exact ⟨rfl, Mods.refl _ _⟩
  · have w0 : ¬ (2147483647 : Int) < s.size := by omega
    by_cases hf : fillOk s = true
    · by_cases hpr : prFrom s 0 = true
      · by_cases h2000 : 2000 < s.size
        · have w2 : (2000 : Int) < s.size := by omega
          go_enter Tryz.func11, Tryz.ntmps11
          go_wp2_with fail
          refine (full_any s w (by omega)).mono ?_
          rintro e w' ⟨rfl, rfl⟩
          rw [hf]
          go_wp2_with fail
          refine (ascii_any s w (by omega)).mono ?_
          rintro e w' ⟨rfl, rfl⟩
          rw [hpr]
          go_wp2_with fail
          go_ret
          exact ⟨rfl, Mods.refl _ _⟩
        · have w2 : ¬ (2000 : Int) < s.size := by omega
          have hlen := escB_len s.data.toList
          have hsz := strL_size (s.data.toList.flatMap escB)
          have e1 : s.data.toList.length = s.size := rfl
          have hb : (strL (s.data.toList.flatMap escB)).size ≤ 12000 := by omega
          have hsl : (slT s).size ≤ 4000 := by have := slT_size s; omega
          obtain ⟨n, hn⟩ : ∃ n : Nat, n = 7 + m % 20 := ⟨_, rfl⟩
          have hm1 : (7 : Int) + (m : Int) % 20 = (n : Int) := by omega
          have hn7 : 7 ≤ n := by omega
          have hn27 : n ≤ 26 := by omega
          have hr0 := repT_size ⟨#[35]⟩ n
          have hr : (repT ⟨#[35]⟩ n).size ≤ 26 := by
            rw [hr0]
            show n * 1 ≤ 26
            omega
          have HT := Lib.hid (seven_text n s)
          have HWn := Lib.hid (seven_want n s)
          clear hn
          clear hlen hsz e1 hr0
          go_enter Tryz.func11, Tryz.ntmps11
          go_wp2_with fail
          refine (full_any s w (by omega)).mono ?_
          rintro e w' ⟨rfl, rfl⟩
          rw [hf]
          go_wp2_with fail
          refine (ascii_any s w (by omega)).mono ?_
          rintro e w' ⟨rfl, rfl⟩
          rw [hpr]
          go_wp2_with fail
          refine (times_any ⟨#[35]⟩ n w (by decide) (by omega)).mono ?_
          rintro e w' ⟨rfl, rfl⟩
          go_wp2_with fail
          refine (plain_any w).mono ?_
          rintro e w1 ⟨rfl, hm1'⟩
          go_wp2_with fail
          refine (slashed_any s w1 (by omega)).mono ?_
          rintro e w2 ⟨rfl, hm2⟩
          have hT := HT.out
          go_wp2_with fail
          have hsc := sevenT_scan n s hpr
          refine (html_of (sevenT n s) w2 (sevenT_line n s hn7 (by omega) hpr hf (by omega)) (sevenT_escd n s hpr) ?_).mono ?_
          · rw [hsc, List.length_append, marks_len]
            have := escB_len s.data.toList
            have e1 : s.data.toList.length = s.size := rfl
            omega
          rw [hsc]
          rintro e w3 ⟨rfl, hm3⟩
          go_wp2_with fail
          refine (EscapeHTML_any s w3 (by omega)).mono ?_
          rintro e w' ⟨rfl, rfl⟩
          clear hpr hf hm1 hT hsc
          go_wp2_with fail
          go_ret
          refine ⟨congrArg (fun b => Ending.returned (.bool b)) ?_, (hm1'.trans hm2).trans hm3⟩
          rw [HWn.out]
          simp
      · have hpr' : prFrom s 0 = false := by simpa using hpr
        go_enter Tryz.func11, Tryz.ntmps11
        go_wp2_with fail
        refine (full_any s w (by omega)).mono ?_
        rintro e w' ⟨rfl, rfl⟩
        rw [hf]
        go_wp2_with fail
        refine (ascii_any s w (by omega)).mono ?_
        rintro e w' ⟨rfl, rfl⟩
        rw [hpr']
        go_wp2_with fail
        go_ret
        exact ⟨rfl, Mods.refl _ _⟩
    · have hf' : fillOk s = false := by simpa using hf
      go_enter Tryz.func11, Tryz.ntmps11
      go_wp2_with fail
      refine (full_any s w (by omega)).mono ?_
      rintro e w' ⟨rfl, rfl⟩
      rw [hf']
      go_wp2_with fail
      go_ret
      exact ⟨rfl, Mods.refl _ _⟩
end Go.Proofs.YtdnlfdppjfjncaaGreatDoor

/- FnLiteralLines: the law's own functions over lines: zzFits2, joined. -/
namespace Go.Proofs.YtdnlfdppjfjncaaGreatDoor
open Go Go.RowKit Go.Proofs

/-- A slice of strings stands in the world. -/
def StrsAt (w : World) (v : Value) (ls : List ByteArray) : Prop :=
  (v = .slice none 0 0 ∧ ls = []) ∨ ∃ a cap, v = .slice (some a) ls.length cap ∧ ∀ i x, ls[i]? = some x → w.cell? (a.add i) = some (.string x)

theorem StrsAt.form {w : World} {v : Value} {ls : List ByteArray} (h : StrsAt w v ls) : ∃ a cap, v = .slice a ls.length cap := by
  rcases h with ⟨h1, h2⟩ | ⟨a, cap, h1, _⟩
  · subst h2
    exact ⟨none, 0, h1⟩
  · exact ⟨_, _, h1⟩
theorem StrsAt.some {w : World} {v : Value} {ls : List ByteArray} (h : StrsAt w v ls) (hl : ls ≠ []) : ∃ a cap, v = .slice (some a) ls.length cap ∧ ∀ i x, ls[i]? = some x → w.cell? (a.add i) = some (.string x) := by
  rcases h with ⟨h1, h2⟩ | h
  · exact absurd h2 hl
  · exact h

def fitsB (ls : List ByteArray) : Bool := decide (ls.length ≤ 2147483647) && ls.all (fun l => decide (l.size ≤ 2147483647))
theorem fitsB_of {ls : List ByteArray} (h1 : ls.length ≤ 2147483647) (h2 : ∀ l ∈ ls, l.size ≤ 2147483647) : fitsB ls = true := by
  simp only [fitsB, Bool.and_eq_true, decide_eq_true_eq, List.all_eq_true]
  exact ⟨h1, h2⟩
theorem fitsB_len {ls : List ByteArray} (h1 : 2147483647 < ls.length) : fitsB ls = false := by
  have : ¬ (ls.length ≤ 2147483647) := by omega
  simp only [fitsB, decide_eq_false this, Bool.false_and]
theorem fitsB_big {ls : List ByteArray} {l : ByteArray} (hl : l ∈ ls) (h1 : 2147483647 < l.size) : fitsB ls = false := by
  rw [Bool.eq_false_iff]
  intro h
  simp only [fitsB, Bool.and_eq_true, decide_eq_true_eq, List.all_eq_true] at h
  have := h.2 l hl
  omega
theorem fitsB_out {ls : List ByteArray} (h : fitsB ls = true) : ls.length ≤ 2147483647 ∧ ∀ l ∈ ls, l.size ≤ 2147483647 := by
  simpa only [fitsB, Bool.and_eq_true, decide_eq_true_eq, List.all_eq_true] using h

set_option maxHeartbeats 4000000 in
theorem zzFits2_any (v : Value) (ls : List ByteArray) (w : World) (h : StrsAt w v ls) :
    Calls Tryz.prog 27 #[v] w fun e w' => e = .returned (.bool (fitsB ls)) ∧ w = w' := by
  by_cases hl : ls = []
  · subst hl
    obtain ⟨a, cap, rfl⟩ := h.form
    go_enter Tryz.func27, Tryz.ntmps27
    go_wp2_with fail
    go_loopg [10] 0 (fun k i wr => i = .int .i64 0 ∧ w = wr)
    case atStart => exact ⟨rfl, rfl⟩
    case round =>
      obtain ⟨rfl, rfl⟩ := hrel
      go_wp2_with fail
      go_ret
      exact ⟨rfl, rfl⟩
  · obtain ⟨a, cap, rfl, hc⟩ := h.some hl
    have HC := Lib.hid hc
    clear hc h
    by_cases hbig : 2147483647 < ls.length
    · have w0 : (2147483647 : Int) < ls.length := by omega
      go_enter Tryz.func27, Tryz.ntmps27
      go_wp2_with fail
      go_ret
      exact ⟨by rw [fitsB_len hbig]; rfl, rfl⟩
    · have w0 : ¬ (2147483647 : Int) < ls.length := by omega
      go_enter Tryz.func27, Tryz.ntmps27
      go_wp2_with fail
      go_loopg [10] ls.length (fun k i wr => ∃ j : Nat, k = ls.length - j ∧ j ≤ ls.length ∧ i = .int .i64 j ∧ w = wr ∧ ∀ l ∈ ls.take j, l.size ≤ 2147483647)
      case atStart => exact ⟨0, rfl, Nat.zero_le _, rfl, rfl, fun l h => by simp at h⟩
      case round =>
        obtain ⟨j, rfl, hj, rfl, rfl, hall⟩ := hrel
        by_cases hlt : j < ls.length
        · have w1 : (j : Int) < ls.length := by omega
          have w2 : (0 : Int) ≤ j := by omega
          have w3 : IntKind.i64.wrap ((j : Int) + 1) = (j : Int) + 1 := IntWalk.i64_in _ (by omega)
          obtain ⟨l, hlj⟩ : ∃ l, ls[j]? = some l := ⟨_, List.getElem?_eq_getElem hlt⟩
          have c1 := HC.out j l hlj
          have HJ := Lib.hid hlj
          clear hlj
          by_cases hb : 2147483647 < l.size
          · have v1 : (2147483647 : Int) < l.size := by omega
            go_wp2_with fail
            go_ret
            exact ⟨by rw [fitsB_big (List.mem_of_getElem? HJ.out) hb]; rfl, rfl⟩
          · have v1 : ¬ (2147483647 : Int) < l.size := by omega
            go_wp2_with fail
            go_roundg (ls.length - (j + 1))
            case measure => omega
            case rel =>
              refine ⟨j + 1, rfl, hlt, by rw [Int.natCast_succ], rfl, fun x hx => ?_⟩
              rw [take_succ_get HJ.out] at hx
              rcases List.mem_append.1 hx with hx | hx
              · exact hall x hx
              · have : x = l := by simpa using hx
                subst this
                omega
        · have w1 : ¬ (j : Int) < ls.length := by omega
          have hjl : j = ls.length := by omega
          go_wp2_with fail
          go_ret
          exact ⟨by rw [fitsB_of (by omega) (fun x hx => hall x (by rw [hjl, List.take_length]; exact hx))]; rfl, rfl⟩

theorem joinT_nil : joinT [] = ByteArray.empty := by simp [joinT, Lib.join]; rfl
theorem joinT_snocL : ∀ (x : ByteArray) (xs : List ByteArray) (l : ByteArray), (joinT ((x :: xs) ++ [l])).data.toList = (joinT (x :: xs)).data.toList ++ 10 :: l.data.toList
  | x, [], l => by
    rw [List.cons_append, List.nil_append, joinT_cons2, joinT_one, joinT_one]
  | x, y :: r, l => by
    rw [List.cons_append, List.cons_append, joinT_cons2, ← List.cons_append, joinT_snocL y r l, joinT_cons2]
    simp
theorem joinT_snoc {xs : List ByteArray} (h : xs ≠ []) (l : ByteArray) : joinT xs ++ (⟨#[10]⟩ : ByteArray) ++ l = joinT (xs ++ [l]) := by
  cases xs with
  | nil => exact absurd rfl h
  | cons x r =>
    have := joinT_snocL x r l
    apply ByteArray.ext
    apply Array.toList_inj.1
    rw [this]
    simp
theorem joinT_take_le : ∀ (ls : List ByteArray) (j : Nat), (joinT (ls.take j)).size ≤ (joinT ls).size
  | [], j => by rw [List.take_nil]; exact Nat.le_refl _
  | x :: r, 0 => by
    rw [List.take_zero, joinT_nil]
    exact Nat.zero_le _
  | [x], j + 1 => by rw [List.take_succ_cons, List.take_nil]; exact Nat.le_refl _
  | x :: y :: r, 1 => by
    rw [List.take_succ_cons, List.take_zero, joinT_one, joinT_size2]; omega
  | x :: y :: r, j + 2 => by
    have := joinT_take_le (y :: r) (j + 1)
    rw [List.take_succ_cons] at this
    rw [List.take_succ_cons, List.take_succ_cons, joinT_size2, joinT_size2]; omega

set_option maxHeartbeats 4000000 in
theorem joined_any (v : Value) (ls : List ByteArray) (w : World) (h : StrsAt w v ls) (hn : ls.length ≤ 1000) (hs : (joinT ls).size ≤ 1000000) :
    Calls Tryz.prog 32 #[v, .string ⟨#[10]⟩] w fun e w' => e = .returned (.string (joinT ls)) ∧ w = w' := by
  by_cases hl : ls = []
  · subst hl
    obtain ⟨a, cap, rfl⟩ := h.form
    go_enter Tryz.func32, Tryz.ntmps32
    go_wp2_with fail
    go_loopg [5, 10] 0 (fun k v i wr => v = .string ByteArray.empty ∧ i = .int .i64 0 ∧ w = wr)
    case atStart => exact ⟨rfl, rfl, rfl⟩
    case round =>
      obtain ⟨rfl, rfl, rfl⟩ := hrel
      go_wp2_with fail
      go_ret
      exact ⟨by rw [joinT_nil]; rfl, rfl⟩
  · obtain ⟨a, cap, rfl, hc⟩ := h.some hl
    have HC := Lib.hid hc
    clear hc h
    go_enter Tryz.func32, Tryz.ntmps32
    go_wp2_with fail
    go_loopg [5, 10] ls.length (fun k v i wr => ∃ j : Nat, k = ls.length - j ∧ j ≤ ls.length ∧ v = .string (joinT (ls.take j)) ∧ i = .int .i64 j ∧ w = wr)
    case atStart => exact ⟨0, rfl, Nat.zero_le _, by rw [List.take_zero, joinT_nil]; rfl, rfl, rfl⟩
    case round =>
      obtain ⟨j, rfl, hj, rfl, rfl, rfl⟩ := hrel
      by_cases hlt : j < ls.length
      · have w1 : (j : Int) < ls.length := by omega
        have w2 : (0 : Int) ≤ j := by omega
        have w3 : IntKind.i64.wrap ((j : Int) + 1) = (j : Int) + 1 := IntWalk.i64_in _ (by omega)
        obtain ⟨l, hlj⟩ : ∃ l, ls[j]? = some l := ⟨_, List.getElem?_eq_getElem hlt⟩
        have c1 := HC.out j l hlj
        have HJ := Lib.hid hlj
        have b1 : (joinT (ls.take j)).size ≤ 1000000 := Nat.le_trans (joinT_take_le ls j) hs
        have b2 : l.size ≤ 1000000 := Nat.le_trans (joinT_le ls l (List.mem_of_getElem? hlj)) hs
        have b3 : (joinT (ls.take j) ++ (⟨#[10]⟩ : ByteArray)).size ≤ 1000001 := by
          rw [ByteArray.size_append]
          show _ + 1 ≤ _
          omega
        clear hlj
        by_cases hj0 : 0 < j
        · have v1 : (0 : Int) < j := by omega
          have hne : ls.take j ≠ [] := by
            intro h
            have := congrArg List.length h
            rw [List.length_take, List.length_nil] at this
            omega
          have HS := Lib.hid (joinT_snoc hne l)
          clear hne
          go_wp2_with fail
          go_roundg (ls.length - (j + 1))
          case measure => omega
          case rel => exact ⟨j + 1, rfl, hlt, by rw [take_succ_get HJ.out, ← HS.out], by rw [Int.natCast_succ], rfl⟩
        · have v1 : ¬ (0 : Int) < j := by omega
          have hz : j = 0 := by omega
          have HZ := Lib.hid hz
          clear hz
          go_wp2_with fail
          go_roundg (ls.length - (j + 1))
          case measure => omega
          case rel =>
            have hz := HZ.out
            subst hz
            refine ⟨1, rfl, hlt, ?_, rfl, rfl⟩
            rw [take_succ_get HJ.out, List.take_zero, joinT_nil, List.nil_append, joinT_one]
            simp
      · have w1 : ¬ (j : Int) < ls.length := by omega
        have hjl : j = ls.length := by omega
        go_wp2_with fail
        go_ret
        exact ⟨rfl, rfl⟩
end Go.Proofs.YtdnlfdppjfjncaaGreatDoor

/-
  DERIVED: THE SHELF's CONTRACTS AT THIS DUMP, IN PLAIN WORDS (tools/lay-plain.mjs out of 'TryzRep.lean', which tools/lay-shelf.mjs wrote): THE SAME DECLARATIONS UNDER THE SAME NAMES: 'import', 'namespace', 'open', 'def', 'theorem' AND NOTHING ELSE: no command of the shelf's: FOR A HAND-IN. Each laying: the table of numbers ('.._ren') and one theorem, a field a fact of the dump's own or the kernel's comparison; each contract: ONE APPLICATION.
-/
namespace Go.Proofs
open Go.Shelf
def Tryz.lays105_ren : Go.Shelf.Ren := ⟨fun | 105 => 28 | 212 => 44 | 99 => 45 | 165 => 46 | 166 => 47 | 170 => 48 | 169 => 43 | 263 => 55 | 264 => 56 | 206 => 57 | 240 => 54 | 241 => 58 | 276 => 68 | 277 => 69 | n => n, fun | 9 => 9 | 3 => 3 | 4 => 4 | 20 => 20 | 0 => 0 | 46 => 60 | 109 => 61 | 5 => 5 | 72 => 55 | 76 => 64 | 51 => 80 | 146 => 81 | 53 => 83 | 148 => 84 | 70 => 53 | 37 => 35 | 75 => 57 | 127 => 79 | 164 => 113 | 80 => 59 | n => n, fun | n => n⟩
theorem Tryz.lays105 : Go.Proofs.Lays.n105 Tryz.prog Tryz.lays105_ren := {
  mixed := by kernel_rfl
  f99 := Tryz.func45.trans (congrArg some (by kernel_rfl))
  f105 := Tryz.func28.trans (congrArg some (by kernel_rfl))
  f165 := Tryz.func46.trans (congrArg some (by kernel_rfl))
  f166 := Tryz.func47.trans (congrArg some (by kernel_rfl))
  f169 := Tryz.func43.trans (congrArg some (by kernel_rfl))
  f170 := Tryz.func48.trans (congrArg some (by kernel_rfl))
  f206 := Tryz.func57.trans (congrArg some (by kernel_rfl))
  f212 := Tryz.func44.trans (congrArg some (by kernel_rfl))
  f240 := Tryz.func54.trans (congrArg some (by kernel_rfl))
  f241 := Tryz.func58.trans (congrArg some (by kernel_rfl))
  f263 := Tryz.func55.trans (congrArg some (by kernel_rfl))
  f264 := Tryz.func56.trans (congrArg some (by kernel_rfl))
  f276 := Tryz.func68.trans (congrArg some (by kernel_rfl))
  f277 := Tryz.func69.trans (congrArg some (by kernel_rfl))
  t0 := Tryz.underlying0
  a0 := Tryz.isAgg0
  z0 := Tryz.sizeOf0
  v0 := Tryz.zeroValue0
  t3 := Tryz.underlying3
  a3 := Tryz.isAgg3
  z3 := Tryz.sizeOf3
  v3 := Tryz.zeroValue3
  t4 := Tryz.underlying4
  a4 := Tryz.isAgg4
  z4 := Tryz.sizeOf4
  v4 := Tryz.zeroValue4
  t5 := Tryz.underlying5
  a5 := Tryz.isAgg5
  z5 := Tryz.sizeOf5
  v5 := Tryz.zeroValue5
  t9 := Tryz.underlying9
  a9 := Tryz.isAgg9
  z9 := Tryz.sizeOf9
  v9 := Tryz.zeroValue9
  t20 := Tryz.underlying20
  a20 := Tryz.isAgg20
  z20 := Tryz.sizeOf20
  v20 := Tryz.zeroValue20
  t37 := Tryz.underlying35
  a37 := Tryz.isAgg35
  z37 := Tryz.sizeOf35
  v37 := Tryz.zeroValue35
  t46 := Tryz.underlying60
  a46 := Tryz.isAgg60
  z46 := Tryz.sizeOf60
  v46 := Tryz.zeroValue60
  t51 := Tryz.underlying80
  a51 := Tryz.isAgg80
  z51 := Tryz.sizeOf80
  v51 := Tryz.zeroValue80
  t53 := Tryz.underlying83
  a53 := Tryz.isAgg83
  z53 := Tryz.sizeOf83
  v53 := Tryz.zeroValue83
  t70 := Tryz.underlying53
  a70 := Tryz.isAgg53
  z70 := Tryz.sizeOf53
  v70 := Tryz.zeroValue53
  t72 := Tryz.underlying55
  a72 := Tryz.isAgg55
  z72 := Tryz.sizeOf55
  v72 := Tryz.zeroValue55
  t75 := Tryz.underlying57
  a75 := Tryz.isAgg57
  z75 := Tryz.sizeOf57
  v75 := Tryz.zeroValue57
  t76 := Tryz.underlying64
  a76 := Tryz.isAgg64
  z76 := Tryz.sizeOf64
  v76 := Tryz.zeroValue64
  t109 := Tryz.underlying61
  a109 := Tryz.isAgg61
  z109 := Tryz.sizeOf61
  v109 := Tryz.zeroValue61
  t127 := Tryz.underlying79
  a127 := Tryz.isAgg79
  z127 := Tryz.sizeOf79
  v127 := Tryz.zeroValue79
  t146 := Tryz.underlying81
  a146 := Tryz.isAgg81
  z146 := Tryz.sizeOf81
  v146 := Tryz.zeroValue81
  t148 := Tryz.underlying84
  a148 := Tryz.isAgg84
  z148 := Tryz.sizeOf84
  v148 := Tryz.zeroValue84
  t164 := Tryz.underlying113
  a164 := Tryz.isAgg113
  z164 := Tryz.sizeOf113
  v164 := Tryz.zeroValue113 }
theorem Tryz.Builder_Extra_105 : Builder.Extra Tryz.prog Tryz.lays105_ren := {
  sizeBuilder := by kernel_rfl
  liesBuilder := by kernel_rfl
  t5 := Tryz.underlying5
  a5 := Tryz.isAgg5
  z5 := Tryz.sizeOf5
  v5 := Tryz.zeroValue5
  infoByte := by kernel_rfl
  cellsByte := by kernel_rfl
  sizeByte := by kernel_rfl
  neB5 := by decide }
open Go.RowKit in
/-- strings.Repeat. -/
theorem Tryz.strings_Repeat (s : ByteArray) (c : Nat) (w : World) (hc : c ≤ 9223372036854775807) (hlen : s.size * c ≤ 140737488355328) :
    Calls Tryz.prog 28 #[.string s, .int .i64 c] w fun e w' => e = .returned (.string ⟨(Lib.repeatL s.data.toList c).toArray⟩) ∧ Below w.heap.size w w' :=
  Any.strings_Repeat Tryz.lays105 Tryz.Builder_Extra_105 s c w hc hlen
end Go.Proofs

/- FnLazy: the plain half; strings.Repeat. -/
namespace Go.Proofs.YtdnlfdppjfjncaaGreatDoor
open Go Go.RowKit Go.Proofs

/-- A slice of bytes in memory. -/
def BytsAt (w : World) (v : Value) (l : List UInt8) : Prop :=
  (l = [] ∧ v = .slice none 0 0) ∨ ∃ a cap, v = .slice (some a) l.length cap ∧ ∀ i x, l[i]? = some x → w.cell? (a.add i) = some (.int .u8 x.toNat)
theorem BytsAt.form {w : World} {v : Value} {l : List UInt8} (h : BytsAt w v l) : ∃ a cap, v = .slice a l.length cap := by
  rcases h with ⟨rfl, rfl⟩ | ⟨a, cap, rfl, _⟩
  · exact ⟨none, 0, rfl⟩
  · exact ⟨some a, cap, rfl⟩

def abc9 : ByteArray := ⟨#[97, 98, 99, 100, 101, 102, 103, 104, 32]⟩
theorem abc9_all : ∀ c : UInt8, ¬ Lib.indexByte abc9.data.toList c < 0 → c = 32 ∨ (97 ≤ c.toNat ∧ c.toNat ≤ 104) := by
  have h : ∀ n : Fin 256, ¬ Lib.indexByte abc9.data.toList (UInt8.ofNat n.1) < 0 → UInt8.ofNat n.1 = 32 ∨ (97 ≤ n.1 ∧ n.1 ≤ 104) := by decide +kernel
  intro c hc
  have := h ⟨c.toNat, c.toNat_lt⟩ (by simpa using hc)
  simpa using this

theorem ltrs_of {s : ByteArray} (h1 : onF s abc9 0 = true) (h2 : fillOk s = true) (h3 : s.size ≤ 40) : Ltrs s := by
  obtain ⟨h0, a, b⟩ := fill_first h2
  refine ⟨h0, h3, fun c hc => ?_, a, b⟩
  obtain ⟨j, hj, rfl⟩ := mem_get hc
  exact abc9_all _ (onF_get s abc9 _ 0 rfl h1 j hj (Nat.zero_le _))

/-- How many signs > stand ahead of line i. -/
def lzK (n : Nat) (fw : List UInt8) (i : Nat) : Nat := if i = 0 then n else (fw[i]?.getD 0).toNat % (n + 1)
def lzKs (n : Nat) (fw : List UInt8) (m : Nat) : List Nat := (List.range m).map (lzK n fw)
theorem lzK_le (n : Nat) (fw : List UInt8) (i : Nat) : lzK n fw i ≤ n := by
  unfold lzK
  split
  · omega
  · have := Nat.mod_lt (fw[i]?.getD 0).toNat (show 0 < n + 1 by omega)
    omega
theorem lzKs_get {n : Nat} {fw : List UInt8} {m i : Nat} (h : i < m) : (lzKs n fw m)[i]? = some (lzK n fw i) := by
  unfold lzKs
  rw [List.getElem?_map, List.getElem?_range h]
  rfl

def lzDoc (n : Nat) (fw : List UInt8) (ls : List ByteArray) (j : Nat) : ByteArray := endT ((List.zipWith lzT (lzKs n fw ls.length) ls).take j)
theorem lzDoc_zero (n : Nat) (fw : List UInt8) (ls : List ByteArray) : lzDoc n fw ls 0 = ⟨#[]⟩ := rfl
theorem gts_rep : ∀ k, Lib.repeatL [62, 32] k = gts k
  | 0 => rfl
  | k + 1 => by
    show [62, 32] ++ Lib.repeatL _ k = _
    rw [gts_rep k]
    rfl
theorem lzDoc_succ {n : Nat} {fw : List UInt8} {ls : List ByteArray} {j : Nat} {s R : ByteArray} (h : ls[j]? = some s) (hR : R = ⟨(Lib.repeatL (⟨#[62, 32]⟩ : ByteArray).data.toList (lzK n fw j)).toArray⟩) :
    lzDoc n fw ls j ++ ((R ++ s) ++ (⟨#[10]⟩ : ByteArray)) = lzDoc n fw ls (j + 1) := by
  have hj : j < ls.length := (List.getElem?_eq_some_iff.1 h).1
  have hz : (List.zipWith lzT (lzKs n fw ls.length) ls)[j]? = some (lzT (lzK n fw j) s) := by
    rw [List.getElem?_zipWith, lzKs_get hj, h]
  subst hR
  apply ByteArray.ext
  apply Array.toList_inj.1
  unfold lzDoc
  rw [List.take_add_one, hz]
  simp only [ByteArray.data_append, Array.toList_append, endT_list, List.flatMap_append, Option.toList, List.flatMap_cons, List.flatMap_nil, lzT_list, gts_rep]
  simp
theorem lzDoc_size (n : Nat) (fw : List UInt8) (ls : List ByteArray) (j : Nat) (hn : n ≤ 9) (h : ∀ l ∈ ls.take j, l.size ≤ 40) (hj : j ≤ ls.length) : (lzDoc n fw ls j).size ≤ 100 * j := by
  have := endT_small ((List.zipWith lzT (lzKs n fw ls.length) ls).take j) 99 (by
    intro l hl
    obtain ⟨i, hi⟩ := List.mem_iff_getElem?.1 hl
    have hij : i < j := by
      have := (List.getElem?_eq_some_iff.1 hi).1
      rw [List.length_take] at this
      omega
    rw [List.getElem?_take_of_lt hij] at hi
    obtain ⟨k, s, h1, h2, rfl⟩ := zip_rest _ ls (by simp [lzKs]) i l hi
    rw [lzKs_get (by omega)] at h1
    have hk := Option.some.inj h1
    have hle := lzK_le n fw i
    have hs := h s (List.mem_of_getElem? (by rw [List.getElem?_take_of_lt hij]; exact h2))
    rw [lzT_size]
    omega)
  have hl : ((List.zipWith lzT (lzKs n fw ls.length) ls).take j).length ≤ j := List.length_take_le _ _
  have := Nat.mul_le_mul_left 100 hl
  unfold lzDoc
  omega

theorem rep_comm (l : List UInt8) (n : Nat) : Lib.repeatL l n ++ l = l ++ Lib.repeatL l n := by
  have h1 := Lib.repeatL_add l n 1
  rw [Lib.repeatL_one] at h1
  rw [← h1]
  rfl
theorem bq_rep (out : List UInt8) : ∀ n, bq out n = Lib.repeatL bqO n ++ (pOpen ++ out ++ pClose) ++ Lib.repeatL bqC n
  | 0 => by simp [bq, Lib.repeatL]
  | n + 1 => by
    have h := rep_comm bqC n
    show bqO ++ bq out n ++ bqC = (bqO ++ Lib.repeatL bqO n) ++ _ ++ (bqC ++ Lib.repeatL bqC n)
    rw [bq_rep out n, ← h]
    simp only [List.append_assoc]

theorem lz_in {n : Nat} {fw : List UInt8} {ls : List ByteArray} (hp : 0 < ls.length) (hle : ls.length ≤ 20) (hn : n ≤ 9) (h : ∀ l ∈ ls, Ltrs l) : LzIn n (lzKs n fw ls.length) ls := by
  refine ⟨by simp [lzKs], hp, hle, hn, ?_, fun k hk => ?_, h⟩
  · rw [lzKs_get hp]
    rfl
  · unfold lzKs at hk
    obtain ⟨i, _, rfl⟩ := List.mem_map.1 hk
    exact lzK_le n fw i

theorem lz_want {n : Nat} {ls : List ByteArray} {R1 R2 : ByteArray} (h1 : R1 = ⟨(Lib.repeatL bqO n).toArray⟩) (h2 : R2 = ⟨(Lib.repeatL bqC n).toArray⟩) :
    (((R1 ++ (⟨#[60, 112, 62]⟩ : ByteArray)) ++ joinT ls) ++ (⟨#[60, 47, 112, 62, 10]⟩ : ByteArray)) ++ R2 = ⟨(bq (joinT ls).data.toList n).toArray⟩ := by
  subst h1 h2
  rw [bq_rep]
  apply ByteArray.ext
  apply Array.toList_inj.1
  simp [pOpen, pClose]

/-- The row of the law's loop behind j lines, and what the lines have been found to be. -/
structure LzAcc (w wr : World) (ls : List ByteArray) (j : Nat) (y : Value) : Prop where
  same : Same w wr
  row : wr.ownsRow 0 9 1 y j ((ls.take j).map .string)
  fresh : ∀ k, y.ownBlock = some k → w.heap.size ≤ k
  good : ∀ l ∈ ls.take j, Ltrs l
theorem LzAcc.cell {w wr : World} {ls : List ByteArray} {j : Nat} {y : Value} (h : LzAcc w wr ls j y) {a : Addr} (hc : ∀ i z, ls[i]? = some z → w.cell? (a.add i) = some (.string z)) {l : ByteArray} (hl : ls[j]? = some l) : wr.cell? (a.add j) = some (.string l) := by
  have h1 := hc j l hl
  exact (World.cell?_of_block (h.same.block _ (World.block_lt_of_cell? _ _ h1) (fun x => x))).trans h1

theorem rep_call (s : ByteArray) (k : Nat) (hs : s.size ≤ 100) (hk : k ≤ 9) (wr V : World) (hV : Same wr V) :
    Calls Tryz.prog 28 #[.string s, .int .i64 k] V fun e V' => e = .returned (.string ⟨(Lib.repeatL s.data.toList k).toArray⟩) ∧ Same wr V' :=
  (Tryz.strings_Repeat s k V (by omega) (by have := Nat.mul_le_mul hs hk; omega)).mono fun e V' ⟨h1, h2⟩ => ⟨h1, hV.then (Below.mods h2 (fun k hk hk2 => absurd hk (by omega))) (fun _ _ x => x)⟩
end Go.Proofs.YtdnlfdppjfjncaaGreatDoor
