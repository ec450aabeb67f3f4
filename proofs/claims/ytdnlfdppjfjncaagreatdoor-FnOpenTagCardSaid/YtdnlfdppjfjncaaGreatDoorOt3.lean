/- Some texts of one proof, put into one file: LawS2, Soft, ParseM, ParseN, ParseO, ManyHTML. -/
import Derived.Test.YtdnlfdppjfjncaaGreatDoorAu5
import Derived.Test.YtdnlfdppjfjncaaGreatDoorAu6
import Derived.Test.YtdnlfdppjfjncaaGreatDoorAu8
import Derived.Test.YtdnlfdppjfjncaaGreatDoorAu9
import Derived.Test.YtdnlfdppjfjncaaGreatDoorOt2
/- FnSeven answers true. -/
namespace Go.Proofs.YtdnlfdppjfjncaaGreatDoor
open Go Go.RowKit Go.Proofs

theorem seven_text (n : Nat) (t : ByteArray) : repT ⟨#[35]⟩ n ++ (⟨#[32]⟩ : ByteArray) ++ slT t = sevenT n t := by
  have h : ∀ n, (List.replicate n [(35 : UInt8)]).flatten = List.replicate n 35 := by
    intro n
    induction n with
    | zero => rfl
    | succ n ih => rw [List.replicate_succ, List.flatten_cons, ih]; rfl
  apply ByteArray.ext
  simp [repT, sevenT, strL, slT, marks, h]

theorem seven_want (n : Nat) (t : ByteArray) : (⟨#[60, 112, 62]⟩ : ByteArray) ++ repT ⟨#[35]⟩ n ++ (⟨#[32]⟩ : ByteArray) ++ strL (t.data.toList.flatMap escB) ++ (⟨#[60, 47, 112, 62, 10]⟩ : ByteArray) = strL (pOpen ++ (marks n ++ t.data.toList.flatMap escB) ++ pClose) := by
  have h : ∀ n, (List.replicate n [(35 : UInt8)]).flatten = List.replicate n 35 := by
    intro n
    induction n with
    | zero => rfl
    | succ n ih => rw [List.replicate_succ, List.flatten_cons, ih]; rfl
  apply ByteArray.ext
  simp [repT, strL, marks, h, pOpen, pClose]

set_option maxRecDepth 100000 in
set_option maxHeartbeats 4000000 in
theorem law_seven (m : Nat) (hm : m < 256) (s : ByteArray) (w : World) :
    Calls Tryz.prog 11 #[.int .u8 m, .string s] w fun e w' => e = .returned (.bool true) ∧ Same w w' := by
  by_cases hbig : 2147483647 < s.size
  · have w0 : (2147483647 : Int) < s.size := by omega
    go_enter Tryz.func11, Tryz.ntmps11
    go_wp2_with fail
    go_ret
    exact ⟨rfl, Mods.refl _ _⟩
  · have w0 : ¬ (2147483647 : Int) < s.size := by omega
    by_cases hf : fillOk s = true
    · by_cases hpr : prFrom s 0 = true
      · by_cases h2000 : 2000 < s.size
        · have w2 : (2000 : Int) < s.size := by omega
          go_enter Tryz.func11, Tryz.ntmps11
          go_wp2_with fail
          refine (full_any s w (by omega)).mono ?_
          rintro e w' ⟨rfl, rfl⟩
          rw [hf]
          go_wp2_with fail
          refine (ascii_any s w (by omega)).mono ?_
          rintro e w' ⟨rfl, rfl⟩
          rw [hpr]
          go_wp2_with fail
          go_ret
          exact ⟨rfl, Mods.refl _ _⟩
        · have w2 : ¬ (2000 : Int) < s.size := by omega
          have hlen := escB_len s.data.toList
          have hsz := strL_size (s.data.toList.flatMap escB)
          have e1 : s.data.toList.length = s.size := rfl
          have hb : (strL (s.data.toList.flatMap escB)).size ≤ 12000 := by omega
          have hsl : (slT s).size ≤ 4000 := by have := slT_size s; omega
          obtain ⟨n, hn⟩ : ∃ n : Nat, n = 7 + m % 20 := ⟨_, rfl⟩
          have hm1 : (7 : Int) + (m : Int) % 20 = (n : Int) := by omega
          have hn7 : 7 ≤ n := by omega
          have hn27 : n ≤ 26 := by omega
          have hr0 := repT_size ⟨#[35]⟩ n
          have hr : (repT ⟨#[35]⟩ n).size ≤ 26 := by
            rw [hr0]
            show n * 1 ≤ 26
            omega
          have HT := Lib.hid (seven_text n s)
          have HWn := Lib.hid (seven_want n s)
          clear hn
          clear hlen hsz e1 hr0
          go_enter Tryz.func11, Tryz.ntmps11
          go_wp2_with fail
          refine (full_any s w (by omega)).mono ?_
          rintro e w' ⟨rfl, rfl⟩
          rw [hf]
          go_wp2_with fail
          refine (ascii_any s w (by omega)).mono ?_
          rintro e w' ⟨rfl, rfl⟩
          rw [hpr]
          go_wp2_with fail
          refine (times_any ⟨#[35]⟩ n w (by decide) (by omega)).mono ?_
          rintro e w' ⟨rfl, rfl⟩
          go_wp2_with fail
          refine (plain_any w).mono ?_
          rintro e w1 ⟨rfl, hm1'⟩
          go_wp2_with fail
          refine (slashed_any s w1 (by omega)).mono ?_
          rintro e w2 ⟨rfl, hm2⟩
          have hT := HT.out
          go_wp2_with fail
          have hsc := sevenT_scan n s hpr
          refine (html_of (sevenT n s) w2 (sevenT_line n s hn7 (by omega) hpr hf (by omega)) (sevenT_escd n s hpr) ?_).mono ?_
          · rw [hsc, List.length_append, marks_len]
            have := escB_len s.data.toList
            have e1 : s.data.toList.length = s.size := rfl
            omega
          rw [hsc]
          rintro e w3 ⟨rfl, hm3⟩
          go_wp2_with fail
          refine (EscapeHTML_any s w3 (by omega)).mono ?_
          rintro e w' ⟨rfl, rfl⟩
          clear hpr hf hm1 hT hsc
          go_wp2_with fail
          go_ret
          refine ⟨congrArg (fun b => Ending.returned (.bool b)) ?_, (hm1'.trans hm2).trans hm3⟩
          rw [HWn.out]
          simp
      · have hpr' : prFrom s 0 = false := by simpa using hpr
        go_enter Tryz.func11, Tryz.ntmps11
        go_wp2_with fail
        refine (full_any s w (by omega)).mono ?_
        rintro e w' ⟨rfl, rfl⟩
        rw [hf]
        go_wp2_with fail
        refine (ascii_any s w (by omega)).mono ?_
        rintro e w' ⟨rfl, rfl⟩
        rw [hpr']
        go_wp2_with fail
        go_ret
        exact ⟨rfl, Mods.refl _ _⟩
    · have hf' : fillOk s = false := by simpa using hf
      go_enter Tryz.func11, Tryz.ntmps11
      go_wp2_with fail
      refine (full_any s w (by omega)).mono ?_
      rintro e w' ⟨rfl, rfl⟩
      rw [hf']
      go_wp2_with fail
      go_ret
      exact ⟨rfl, Mods.refl _ _⟩
end Go.Proofs.YtdnlfdppjfjncaaGreatDoor

/- parseBreak at a line feed between two signs that are no blanks. -/
namespace Go.Proofs.YtdnlfdppjfjncaaGreatDoor
open Go Go.RowKit Go.Proofs

set_option maxHeartbeats 4000000 in
theorem parseBreak_soft (a : Value) (s : ByteArray) (i : Nat) (w : World) (h0 : 0 < i) (hi : i + 1 < s.size) (hs : s.size ≤ 1000000) (h1 : isW (s[i - 1]'(by omega)) = false) (h2 : isW s[i + 1] = false) :
    Calls Tryz.prog 84 #[a, .string s, .int .i64 i] w fun e w' => ∃ b, e = .returned (.tuple #[.iface 193 (.pointer (some ⟨b, 0, none⟩)), .int .i64 i, .int .i64 (i + 1 : Nat), .bool true]) ∧
      Same w w' ∧ w.heap.size ≤ b ∧ Blk w' b #[] 194 := by
  obtain ⟨a1, a2⟩ := isW_no h1
  obtain ⟨b1, b2⟩ := isW_no h2
  clear h1 h2
  have w1 : IntKind.i64.wrap ((i : Int) + 1) = (i : Int) + 1 := IntWalk.i64_in _ (by omega)
  have w2 : IntKind.i64.wrap ((i : Int) - 1) = (i : Int) - 1 := IntWalk.i64_in _ (by omega)
  have w2' : IntKind.i64.wrap ((i : Int) - 2) = (i : Int) - 2 := IntWalk.i64_in _ (by omega)
  have w3 : (i : Int) + 1 < s.size := by omega
  have w4 : (0 : Int) ≤ (i : Int) + 1 := by omega
  have w5 : ((i : Int) + 1).toNat = i + 1 := by omega
  have w6 : ((i : Int) - 1).toNat = i - 1 := by omega
  have w7 : (i : Int) - 1 < s.size := by omega
  have w8 : (0 : Int) ≤ (i : Int) - 1 := by omega
  have w9 : (0 : Int) < (i : Int) := by omega
  go_enter Tryz.func84, Tryz.ntmps84
  go_wp2_with fail
  go_loopg [10] 0 (fun k v wr => v = .int .i64 i ∧ w = wr)
  case atStart => exact ⟨rfl, rfl⟩
  case round =>
    obtain ⟨rfl, rfl⟩ := hrel
    go_wp2_with fail
    go_loopg [11] 0 (fun k v wr => v = .int .i64 (i + 1 : Nat) ∧ w = wr)
    case atStart => exact ⟨by rw [Int.natCast_succ], rfl⟩
    case round =>
      obtain ⟨rfl, rfl⟩ := hrel
      by_cases hi2 : 2 ≤ i
      · have v1 : (2 : Int) ≤ (i : Int) := by omega
        go_wp2_with fail
        try rw [Exit.noGoto_ret]
        refine bodyPost_ret (v := .tuple #[.iface 193 (.pointer (some ⟨w.heap.size, 0, none⟩)), .int .i64 i, .int .i64 (i + 1 : Nat), .bool true]) (by simp [results, Tryz.results84, go_sem]) rfl ?_
        exact ⟨_, rfl, (Mods.refl _ w).alloc _, Nat.le_refl _, Blk.newAt _ _ rfl⟩
      · have v1 : ¬ ((2 : Int) ≤ (i : Int)) := by omega
        go_wp2_with fail
        try rw [Exit.noGoto_ret]
        refine bodyPost_ret (v := .tuple #[.iface 193 (.pointer (some ⟨w.heap.size, 0, none⟩)), .int .i64 i, .int .i64 (i + 1 : Nat), .bool true]) (by simp [results, Tryz.results84, go_sem]) rfl ?_
        exact ⟨_, rfl, (Mods.refl _ w).alloc _, Nat.le_refl _, Blk.newAt _ _ rfl⟩

theorem soft_call (s : ByteArray) (k : Nat) (h0 : 0 < k) (hk : k + 1 < s.size) (hs : s.size ≤ 1000000) (h1 : isW (s[k - 1]'(by omega)) = false) (h2 : isW s[k + 1] = false) :
    PieceCall s k 84 .soft k (k + 1) := by
  intro bp q W hq
  refine (parseBreak_soft _ s k W h0 hk hs h1 h2).mono ?_
  rintro e w' ⟨b, h1, h2, h3, h4⟩
  exact ⟨b, q.corner, h1, h2.mono (fun _ _ h => h.elim), hq.same h2, h3, h4⟩
end Go.Proofs.YtdnlfdppjfjncaaGreatDoor

/- (*Parser).parse of a paragraph of some lines, over a plan of its text. -/
namespace Go.Proofs.YtdnlfdppjfjncaaGreatDoor
open Go Go.RowKit Go.Proofs

/-- The open blocks: the document, and a paragraph below it. -/
def twoOB (rv pv : Value) (ea eb : Int) : List OB := [⟨rv, .slice none 0 0, 0, ea⟩, ⟨pv, .slice none 0 0, 1, eb⟩]
theorem twoOB_upd (rv pv : Value) (ea eb m : Int) : updE (twoOB rv pv ea eb) 0 2 m = twoOB rv pv m m := by
  simp [updE, twoOB, List.mapIdx, List.mapIdx.go]

/-- What stands of the document when both blocks are closed. -/
structure ManyClosed (w w' : World) (bp g cap pp k : Nat) (s : ByteArray) : Prop where
  mods : Mods (fun k => k = bp ∨ k = g) w w'
  ex : ∃ rk pk tb tg tc ig ic x y x2 y2, w.heap.size ≤ rk ∧ w.heap.size ≤ pk ∧ w.heap.size ≤ tb ∧
    Blk w' rk #[.int .i64 x, .int .i64 y, .slice (some ⟨ig, 0, none⟩) 1 ic, .map none] 339 ∧
    Blk w' pk #[.int .i64 x2, .int .i64 y2, .pointer (some ⟨tb, 0, none⟩)] 155 ∧
    Blk w' tb #[.int .i64 x2, .int .i64 y2, .slice none 0 0, .string s] 110 ∧
    PsAt w' bp { p2 pp g cap with lineno := (k : Nat), texts := .slice (some ⟨tg, 0, none⟩) 1 tc, stack := .slice (some ⟨g, 0, none⟩) 0 cap, root := .pointer (some ⟨rk, 0, none⟩) } ∧
    w'.ownsRow 0 105 1 (.slice (some ⟨tg, 0, none⟩) 1 tc) 1 [.pointer (some ⟨tb, 0, none⟩)] ∧
    w'.ownsRow 0 68 1 (.slice (some ⟨ig, 0, none⟩) 1 ic) 1 [.iface 153 (.pointer (some ⟨pk, 0, none⟩))]

theorem closed_many (bp g cap pp k gt ct bb : Nat) (v : Option Addr) (ea eb : Int) (ls : List ByteArray) (w : World) (hT : ParaText ls) (hk : ls.length = k)
    (h : ParaL w bp g 1 cap { p2 pp g cap with lineno := (k : Nat) } (twoOB (.iface 98 (.pointer v)) (.iface 162 (.pointer (some ⟨bb, 0, none⟩))) ea eb) bb gt ct k ls) :
    Calls Tryz.prog 65 #[.pointer (some ⟨bp, 0, none⟩), .int .i64 0] w fun e w' => e = .returned (.tuple #[]) ∧ ManyClosed w w' bp g cap pp k (joinT ls) := by
  obtain ⟨l0, r0, hl0⟩ : ∃ l r, ls = l :: r := by
    cases hls : ls with
    | nil => exact absurd hls hT.ne
    | cons l r => exact ⟨l, r, rfl⟩
  have hp0 := hT.pos l0 (by rw [hl0]; simp)
  obtain ⟨hj0, hj1⟩ := joinT_first (r := r0) hp0
  rw [← hl0] at hj0
  have hjf : (joinT ls)[0] = l0[0] := by simpa only [hl0] using hj1
  have hk0 : 0 < k := by rw [← hk, hl0]; simp
  have hkc := hT.count
  have hsm := hT.small
  obtain ⟨_, _, he, ⟨curT, hcurT⟩, _, hc⟩ := ownsRow_form h.txt hk0
  cases he
  have hcap : k ≤ ct := by
    rcases h.txt.2 with ⟨h, _⟩ | ⟨_, _, _, h, _, _, hc, _⟩
    · cases h
    · cases h; exact hc
  have hJ : ∀ W, Same w W → Calls Tryz.prog 29 #[.slice (some ⟨gt, 0, none⟩) k ct, .string ⟨#[10]⟩] W fun e W' => e = .returned (.string (joinT ls)) ∧ Same W W' := by
    intro W hW
    subst hk
    refine (Tryz.strings_Join gt 0 ct ls ⟨#[10]⟩ W ?_ (Nat.lt_of_lt_of_le hcurT.lt hW.size) (by omega) hcap ?_).mono ?_
    · intro j x hx
      have := hc j (.string x) (by rw [List.getElem?_map, hx]; rfl)
      rw [Nat.zero_add]
      exact (World.cell?_of_block (hW.block gt hcurT.lt (fun x => x))).trans this
    · have e1 : (Lib.join (ls.map (·.data.toList)) (⟨#[10]⟩ : ByteArray).data.toList).length = (joinT ls).size := by rw [size_list, joinT_list]
      rw [e1]; omega
    · rintro e w' ⟨h1, h2⟩
      exact ⟨h1, Below.mods h2 (fun k hk hk2 => absurd hk (by omega))⟩
  have h91 : (joinT ls)[0] ≠ 91 := by rw [hjf]; exact hT.no91 l0 r0 hl0 hp0
  have h10 : (joinT ls)[0] ≠ 10 := by rw [hjf]; exact hT.no10 l0 (by rw [hl0]; simp) 0 hp0
  have h9 : (joinT ls)[0] ≠ 9 := by rw [hjf]; exact hT.no9 l0 (by rw [hl0]; simp) 0 hp0
  have h32 : (joinT ls)[0] ≠ 32 := by
    rw [hjf]
    have := hT.first l0 (by rw [hl0]; simp) hp0
    intro h; rw [h] at this; cases this
  have hrow : w.ownsRow 0 121 4 (.slice (some ⟨g, 0, none⟩) (0 + 1 + 1) cap) (0 + 1 + 1) (([] ++ [.iface 98 (.pointer v), .slice none 0 0, .int .i64 0, .int .i64 ea]) ++ [.iface 162 (.pointer (some ⟨bb, 0, none⟩)), .slice none 0 0, .int .i64 1, .int .i64 eb]) := h.row
  have hcl := closePara bp bb g 0 cap 0 0 { p2 pp g cap with lineno := (k : Nat) } [] [] [] (.iface 98 (.pointer v)) (.slice none 0 0) (.slice none 0 0) (.slice (some ⟨gt, 0, none⟩) k ct) 0 ea 1 eb k (joinT ls) w h.at_ rfl (by omega) hrow ⟨rfl, Or.inl ⟨rfl, rfl⟩⟩ (by omega) h.blk ⟨_, _, rfl⟩ (by omega)
    ⟨rfl, Or.inl ⟨rfl, rfl⟩⟩ (by omega) hJ hj0 (by omega) h32 h9 h10 h91 (by omega) (by omega)
  have hgen := trimStack_gen bp 0 (fun j W => match j with
    | 2 => W = w
    | 1 => ∃ u, ParaClosed w W bp g 0 cap 0 0 { p2 pp g cap with lineno := (k : Nat) } [] [] [] (.iface 98 (.pointer v)) (.slice none 0 0) 0 ea 1 (1 + (k : Int) - 1) (joinT ls) u
    | 0 => ManyClosed w W bp g cap pp k (joinT ls)
    | _ => False) (by omega) ?_ ?_ 2 w rfl
  · exact hgen
  · intro j W hP
    match j, hP with
    | 2, hP => subst hP; exact ⟨by omega, _, _, h.at_.stack⟩
    | 1, ⟨u, hPC⟩ =>
      obtain ⟨pk, tb, tg, tc, ig, ic, _, _, _, _, _, h, _⟩ := hPC.ex
      exact ⟨by omega, _, _, h.stack⟩
    | 0, hP =>
      obtain ⟨rk, pk, tb, tg, tc, ig, ic, _, _, _, _, _, _, _, _, _, _, h, _⟩ := hP.ex
      exact ⟨by omega, _, _, h.stack⟩
  · intro j W hP
    match j, hP with
    | 1, hP => subst hP; exact hcl.mono fun e w' ⟨v1, h1, h2⟩ => ⟨v1, h1, v1, h2⟩
    | 0, ⟨u, hPC⟩ =>
      obtain ⟨pk, tb, tg, tc, ig, ic, _, hpk, htb, hPb, hTb, hps, htx, hrow, hin⟩ := hPC.ex
      refine (closeRoot bp g cap _ v (some ⟨ig, 0, none⟩) 1 ic none 0 ea W hps rfl hrow rfl).mono ?_
      rintro e W' ⟨u', rfl, hm, rk, hrk, hR, hps'⟩
      have h1 := hPC.mods.size
      have hne : ∀ {b : Nat} {cs : Array Value} {T : Nat}, Blk W b cs T → T ≠ 95 → ¬ (b = bp) := fun h hT => by
        obtain ⟨tail, htl⟩ := id hps
        exact h.ne_of_type htl hT
      refine ⟨u', rfl, ?_, rk, pk, tb, tg, tc, ig, ic, _, _, _, _, by omega, hpk, htb, hR, hPb.keep hm (hne hPb (by decide)), hTb.keep hm (hne hTb (by decide)), hps', ?_, ?_⟩
      · refine (hPC.mods.mono (fun k _ h => ?_)).trans (hm.mono (fun _ _ h => Or.inl h))
        rcases h with h | h | h | h
        · exact Or.inl h
        · exact Or.inr h
        · cases h
        · cases h
      · exact ownsRow_keep htx hm (fun k hk x => own_ne_ps htx hps (by decide) (by rw [← x]; exact hk))
      · exact ownsRow_keep hin hm (fun k hk x => own_ne_ps hin hps (by decide) (by rw [← x]; exact hk))
end Go.Proofs.YtdnlfdppjfjncaaGreatDoor

/- (*Parser).parse of a paragraph of some lines: a line is read. -/
namespace Go.Proofs.YtdnlfdppjfjncaaGreatDoor
open Go Go.RowKit Go.Proofs

def rootV (v : Option Addr) : Value := .iface 98 (.pointer v)

/-- What has been read behind j lines, seen from the world w. -/
structure Rd (w wr : World) (bp pp : Nat) (v : Option Addr) (ls : List ByteArray) (j : Nat) : Prop where
  same : Same w wr
  ex : ∃ g cap, w.heap.size ≤ g ∧
    ((j = 0 ∧ PsAt wr bp { p0 pp with stack := .slice (some ⟨g, 0, none⟩) 1 cap } ∧ wr.ownsRow 0 121 4 (.slice (some ⟨g, 0, none⟩) 1 cap) 1 [rootV v, .slice none 0 0, .int .i64 0, .int .i64 0]) ∨
     (0 < j ∧ ∃ bb gt ct ea eb, w.heap.size ≤ bb ∧ w.heap.size ≤ gt ∧
       ParaL wr bp g 1 cap { p2 pp g cap with lineno := (j : Nat) } (twoOB (rootV v) (.iface 162 (.pointer (some ⟨bb, 0, none⟩))) ea eb) bb gt ct j (ls.take j)))

theorem Rd.line {w wr : World} {bp pp : Nat} {v : Option Addr} {ls : List ByteArray} {j : Nat} (h : Rd w wr bp pp v ls j) :
    wr.cell? ⟨bp, 3, none⟩ = some (.int .i64 j) ∧ wr.frozen? ⟨bp, 3, none⟩ = false ∧ bp < wr.heap.size := by
  obtain ⟨g, cap, _, ⟨hj, hp, _⟩ | ⟨_, bb, gt, ct, ea, eb, _, _, hP⟩⟩ := h.ex
  · subst hj
    exact ⟨hp.lineno, hp.fr 3, hp.lt⟩
  · exact ⟨hP.at_.lineno, hP.at_.fr 3, hP.at_.lt⟩

theorem ParaL.setLine {w : World} {bp g n cap : Nat} {p : PSt} {L : List OB} {bb gt ct m : Nat} {xs : List ByteArray} (h : ParaL w bp g n cap p L bb gt ct m xs) (k : Int) :
    ParaL (w.setCell ⟨bp, 3, none⟩ (.int .i64 k)) bp g n cap { p with lineno := k } L bb gt ct m xs ∧ Mods (fun k => k = bp) w (w.setCell ⟨bp, 3, none⟩ (.int .i64 k)) := by
  have hm : Mods (fun k => k = bp) w (w.setCell ⟨bp, 3, none⟩ (.int .i64 k)) := (Mods.refl (fun k => k = bp) w).setCell (p := ⟨bp, 3, none⟩) (fun _ => rfl) _
  obtain ⟨tail, htl⟩ := id h.at_
  exact ⟨⟨h.at_.set 3 _ { p with lineno := k } rfl (by decide), h.stack, h.small, h.len, ownsRow_keep h.row hm (fun b hb x => by cases hb; exact htl.own_ne h.row (by decide) x.symm), h.top,
    h.blk.keep1 hm (h.blk.ne_of_type htl (by decide)), ownsRow_keep h.txt hm (fun b hb x => by cases hb; exact htl.own_ne h.txt (by decide) x.symm)⟩, hm⟩

theorem take_succ_get {ls : List ByteArray} {j : Nat} {l : ByteArray} (h : ls[j]? = some l) : ls.take (j + 1) = ls.take j ++ [l] := by
  rw [List.take_add_one, h]; rfl

theorem rd_step (w wr : World) (bp pp : Nat) (v : Option Addr) (ls : List ByteArray) (j : Nat) (l : ByteArray) (nl : Int) (hT : ParaText ls) (h : Rd w wr bp pp v ls j) (hj : ls[j]? = some l) (hO : Off w pp) (hbp : w.heap.size ≤ bp) :
    Calls Tryz.prog 64 #[.pointer (some ⟨bp, 0, none⟩), LV 0 l nl] (wr.setCell ⟨bp, 3, none⟩ (.int .i64 ((j : Int) + 1))) fun e w2 => e = .returned (.tuple #[]) ∧ Rd w w2 bp pp v ls (j + 1) := by
  have hmem : l ∈ ls := List.mem_of_getElem? hj
  have hjl : j < ls.length := (List.getElem?_eq_some_iff.1 hj).1
  have hcnt := hT.count
  have hpos := hT.pos l hmem
  have hfst := hT.first l hmem hpos
  have hsz := joinT_le ls l hmem
  have hsm := hT.small
  have hs6 : l.size ≤ 1000000 := by omega
  have hTx : Txt l := ⟨hs6, hT.no9 l hmem⟩
  have hpl := hO.lt
  obtain ⟨hsame, g, cap, hgw, hst⟩ := h
  have hws := hsame.size
  have hOr := hO.same hsame
  rcases hst with ⟨hj0, hp, hown⟩ | ⟨hj0, bb, gt, ct, ea, eb, hbb, hgt, hP⟩
  · subst hj0
    have hls : ∃ r, ls = l :: r := by
      cases hls : ls with
      | nil => rw [hls] at hj; cases hj
      | cons a r => rw [hls] at hj; exact ⟨r, by rw [Option.some.inj hj]⟩
    obtain ⟨r, hls⟩ := hls
    have hm : Mods (fun k => k = bp) wr (wr.setCell ⟨bp, 3, none⟩ (.int .i64 (((0 : Nat) : Int) + 1))) := (Mods.refl (fun k => k = bp) wr).setCell (p := ⟨bp, 3, none⟩) (fun _ => rfl) _
    have hpY : PsAt (wr.setCell ⟨bp, 3, none⟩ (.int .i64 (((0 : Nat) : Int) + 1))) bp { p0 pp with lineno := 1, stack := .slice (some ⟨g, 0, none⟩) 1 cap } := hp.set 3 _ _ rfl (by decide)
    have hownY := ownsRow_keep hown hm (fun k hk x => own_ne_ps hown hp (by decide) (by rw [← x]; exact hk))
    generalize (wr.setCell ⟨bp, 3, none⟩ (.int .i64 (((0 : Nat) : Int) + 1)) : World) = Y at *
    have hppb : pp ≠ bp := by omega
    have hOY : Opt Y { p0 pp with lineno := 1, stack := .slice (some ⟨g, 0, none⟩) 1 cap } 5 false := (hOr.opt rfl 5 (by omega)).keep hm hppb
    have hNP : NoPara Y bp g 0 cap { p0 pp with lineno := 1, stack := .slice (some ⟨g, 0, none⟩) 1 cap } 98 (.pointer v) := ⟨hpY, rfl, by omega, (row_cells (n := 0) (l := []) hownY).1, by decide⟩
    refine (addLine_first bp g cap _ _ _ _ l nl Y hNP hs6 (blankAt_id hpos hfst) hOY hownY hppb (fun V hV => triesNo_begins bp g 0 cap _ _ _ l 0 nl V hV rfl (by decide) (Nat.zero_le _) hTx (hT.begins l r hls))).mono ?_
    rintro e w2 ⟨rfl, hPN⟩
    rw [trimL_id hpos hfst] at hPN
    obtain ⟨hm2, g2, cap2, bb, tv, a1, a2, a3, a4, a5, a6, a7⟩ := hPN
    obtain ⟨gt, ct, rfl, ⟨cu, hcu⟩, _, _⟩ := ownsRow_form a4 (by omega)
    have hYs := hm.size
    have hsame2 : Same w w2 := (hsame.then hm (fun b hb x => by omega)).then hm2 (fun b hb x => by
      rcases x with x | x
      · omega
      · have hh : g = b := Option.some.inj x
        omega)
    have hg2 : w.heap.size ≤ g2 := by
      by_cases hlt : g2 < Y.heap.size
      · have hh : g = g2 := Option.some.inj (a6 hlt)
        omega
      · omega
    refine ⟨rfl, hsame2, g2, cap2, hg2, Or.inr ⟨by omega, bb, gt, ct, 0, 1, by omega, ?_, ⟨a1, rfl, by omega, rfl, a2, ⟨_, rfl, rfl⟩, a3, ?_⟩⟩⟩
    · have := a7 gt rfl
      omega
    · rw [hls]; exact a4
  · have hd := hP.setLine ((j : Int) + 1)
    have hcast : ((j : Int) + 1) = ((j + 1 : Nat) : Int) := by omega
    rw [hcast] at hd ⊢
    obtain ⟨hPY, hm⟩ := hd
    generalize (wr.setCell ⟨bp, 3, none⟩ (.int .i64 ((j + 1 : Nat) : Int)) : World) = Y at *
    have hOY : Opt Y { p2 pp g cap with lineno := ((j + 1 : Nat) : Int) } 5 false := (hOr.opt (p := { p2 pp g cap with lineno := ((j + 1 : Nat) : Int) }) rfl 5 (by omega)).keep hm (by show pp ≠ bp; omega)
    have hgoes : Goes l := by
      obtain ⟨l0, r0, hl0⟩ : ∃ l r, ls = l :: r := by
        cases hls : ls with
        | nil => exact absurd hls hT.ne
        | cons a r => exact ⟨a, r, rfl⟩
      refine hT.goes l0 r0 hl0 l ?_
      rw [hl0] at hj
      obtain ⟨i, rfl⟩ : ∃ i, j = i + 1 := ⟨j - 1, by omega⟩
      exact List.mem_of_getElem? (by simpa using hj)
    refine (addLine_cont bp g cap _ _ bb gt ct j (ls.take j) l nl Y hPY hs6 (blankAt_id hpos hfst) hOY (by show pp ≠ bp; omega) (by show pp ≠ g; omega) hj0 (by omega)
      (fun W hW => triesNo_cont bp g cap _ _ bb gt ct j _ l nl W hW rfl _ _ _ rfl rfl (by decide) hTx hgoes)).mono ?_
    rintro e w2 ⟨rfl, hm2, gt2, ct2, hP2, hgt2⟩
    rw [trimL_id hpos hfst, ← take_succ_get hj] at hP2
    have hYs := hm.size
    refine ⟨rfl, ?_, g, cap, hgw, Or.inr ⟨by omega, bb, gt2, ct2, ((j + 1 : Nat) : Int), ((j + 1 : Nat) : Int), hbb, ?_, ?_⟩⟩
    · exact (hsame.then hm (fun b hb x => by omega)).then hm2 (fun b hb x => by omega)
    · rcases hgt2 with h | h
      · rw [h]; exact hgt
      · omega
    · rw [twoOB_upd] at hP2
      exact hP2
end Go.Proofs.YtdnlfdppjfjncaaGreatDoor

/- (*Parser).parse of a paragraph of some lines: the walk. -/
namespace Go.Proofs.YtdnlfdppjfjncaaGreatDoor
open Go Go.RowKit Go.Proofs

theorem Rd.same_world {w wr wx : World} {bp pp : Nat} {v : Option Addr} {ls : List ByteArray} {j : Nat} (h : Rd w wr bp pp v ls j) (hm : Same wr wx) : Rd w wx bp pp v ls j := by
  obtain ⟨h1, g, cap, h2, ⟨h3, h4, h5⟩ | ⟨h3, bb, gt, ct, ea, eb, h4, h5, h6⟩⟩ := h
  · exact ⟨h1.trans hm, g, cap, h2, Or.inl ⟨h3, h4.same hm, ownsRow_keep h5 hm (fun _ _ x => x)⟩⟩
  · exact ⟨h1.trans hm, g, cap, h2, Or.inr ⟨h3, bb, gt, ct, ea, eb, h4, h5, h6.same hm⟩⟩

theorem joinT_pos {ls : List ByteArray} (hT : ParaText ls) : 0 < (joinT ls).size := by
  obtain ⟨l, r, rfl⟩ : ∃ l r, ls = l :: r := by
    cases ls with
    | nil => exact absurd rfl hT.ne
    | cons l r => exact ⟨l, r, rfl⟩
  exact (joinT_first (r := r) (hT.pos l (by simp))).1

theorem joinT_firstW {ls : List ByteArray} (hT : ParaText ls) (h : 0 < (joinT ls).size) : isW (joinT ls)[0] = false := by
  obtain ⟨l, r, rfl⟩ : ∃ l r, ls = l :: r := by
    cases ls with
    | nil => exact absurd rfl hT.ne
    | cons l r => exact ⟨l, r, rfl⟩
  have hp := hT.pos l (by simp)
  obtain ⟨h1, h2⟩ := joinT_first (r := r) hp
  rw [h2]
  exact hT.first l (by simp) hp

theorem joinT_not {ls : List ByteArray} {c : UInt8} (hc : c ≠ 10) (h : ∀ l ∈ ls, ∀ i (hi : i < l.size), l[i] ≠ c) : ∀ i (hi : i < (joinT ls).size), (joinT ls)[i] ≠ c := by
  intro i hi e
  rcases joinT_mem ls c (by rw [← e]; exact get_mem hi) with h' | ⟨l, hl, h'⟩
  · exact hc h'
  · obtain ⟨k, hk, hk2⟩ := mem_get h'
    exact h l hl k hk hk2

set_option maxRecDepth 100000 in
set_option maxHeartbeats 8000000 in
theorem parse_many (pp : Nat) (ls : List ByteArray) (w : World) (hT : ParaText ls) (all : List Pc) (hg : Plan (joinT ls) 0 0 all) (hO : Off w pp) :
    Calls Tryz.prog 51 #[.pointer (some ⟨pp, 0, none⟩), .string (joinT ls)] w fun e w' => ∃ bp rk c, e = .returned (.tuple #[.pointer (some ⟨rk, 0, none⟩), .bool c]) ∧ DocAt w w' bp rk pp (joinT ls) all := by
  have hpos := joinT_pos hT
  have hsm := hT.small
  have hs6 : (joinT ls).size ≤ 1000000 := by omega
  have i0 := idx1_none (joinT_not (c := 0) (by decide) hT.no0)
  have hfirstT := joinT_firstW hT hpos
  have hlastT := hT.last hpos
  go_enter Tryz.func51, Tryz.ntmps51
  go_wp2_with fail
  refine (zzContains_any (joinT ls) 0 _ hs6).mono ?_
  rintro e w' ⟨rfl, rfl⟩
  rw [i0]
  generalize hW : (World.alloc _ _ : World) = W
  have hm0 : Same w W := by subst hW; exact (Mods.refl _ w).alloc _
  have hp0 : PsAt W w.heap.size { p0 pp with depth := 0 } := by
    subst hW
    exact ⟨Tryz.zeroCells95.toList.drop 12, Blk.newAt _ _ rfl⟩
  clear hW
  generalize hbp : w.heap.size = bp at *
  have k5 := hp0.depth
  have f5 := hp0.fr 5
  have hbl := hp0.lt
  go_wp2_with fail
  generalize hX : (World.alloc (World.setCell _ _ _) _ : World) = X
  have hmX : Same w X := by
    subst hX
    exact (hm0.setCell (p := ⟨bp, 5, none⟩) (fun h => absurd h (Nat.not_lt.2 (Nat.le_of_eq hbp))) _).alloc _
  have hpX : PsAt X bp (p0 pp) := by
    subst hX
    exact PsAt.alloc (hp0.set 5 (.int .i64 (-1)) (p0 pp) rfl (by decide)) _
  clear hX
  refine (addBlock_any bp 0 0 none (p0 pp) _ (.pointer (some ⟨W.heap.size, 0, none⟩)) [] (-1) X hpX rfl (by omega) rfl rfl ⟨rfl, Or.inl ⟨rfl, rfl⟩⟩ (fun g h => by cases h) rfl).mono ?_
  rintro e w1 ⟨rfl, hm1, g, cap, hp1, hown1, hgl1⟩
  have hmw1 : Same w w1 := hmX.then hm1 (fun b hb h => by
    rcases h with h | h
    · omega
    · cases h)
  have hXs := hmX.size
  have hgw : w.heap.size ≤ g := by
    by_cases h : g < X.heap.size
    · cases hgl1 h
    · omega
  have hR0 : Rd w w1 bp pp (some ⟨W.heap.size, 0, none⟩) ls 0 := ⟨hmw1, g, cap, hgw, Or.inl ⟨rfl, hp1, hown1⟩⟩
  clear k5 f5 hbl hm0 hp0 hmX hpX hm1 hp1 hown1 hgl1 hmw1 hXs hgw
  go_wp2_with fail
  go_loopg [1] ls.length (fun k v1 wr => ∃ j : Nat, k = ls.length - j ∧ j ≤ ls.length ∧ v1 = .string (joinT (ls.drop j)) ∧ Rd w wr bp pp (some ⟨W.heap.size, 0, none⟩) ls j)
  case atStart => exact ⟨0, rfl, Nat.zero_le _, by rw [List.drop_zero], hR0⟩
  case round =>
    clear hR0
    obtain ⟨j, hk, hj, rfl, hR⟩ := hrel
    have HK := Lib.hid hk
    clear hk
    by_cases hlt : j < ls.length
    · obtain ⟨l, hl⟩ : ∃ l, ls[j]? = some l := ⟨_, List.getElem?_eq_getElem hlt⟩
      have hdrop : ls.drop j = l :: ls.drop (j + 1) := by
        rw [List.drop_eq_getElem_cons hlt]
        congr 1
        exact Option.some.inj ((List.getElem?_eq_getElem hlt).symm.trans hl)
      obtain ⟨k3, f3, l3⟩ := hR.line
      have hle := joinT_drop_le ls j
      have hdl : ∀ x ∈ ls.drop j, x ∈ ls := fun x hx => List.mem_of_mem_drop hx
      have i13 := idx1_none (joinT_not (ls := ls.drop j) (c := 13) (by decide) (fun x hx => hT.no13 x (hdl x hx)))
      have hlmem : l ∈ ls := List.mem_of_getElem? hl
      have hp := hT.pos l hlmem
      have h10l := hT.no10 l hlmem
      have hs7 : (joinT (ls.drop j)).size ≤ 1000000 := by omega
      have w3 : IntKind.i64.wrap ((j : Int) + 1) = (j : Int) + 1 := IntWalk.i64_in _ (by have := hT.count; omega)
      have STEP := Lib.hid (fun nl wx (hx : Same wr wx) => rd_step w wx bp pp _ ls j l nl hT (hR.same_world hx) hl hO (Nat.le_of_eq hbp))
      cases hr : ls.drop (j + 1) with
      | nil =>
        rw [hr] at hdrop
        rw [hdrop, joinT_one] at *
        have i10 := idx1_none h10l
        have e0 : l.toList.isEmpty = false := bs_ne hp
        have e0' : (!l.toList.isEmpty) = true := by rw [e0]; rfl
        clear hR hle hdl hlmem h10l hdrop
        go_wp2_with fail
        refine (zzIndex_any l 10 _ hs7).mono ?_
        rintro e w' ⟨rfl, rfl⟩
        rw [i10]
        go_wp2_with fail
        refine (zzIndex_any l 13 _ hs7).mono ?_
        rintro e w' ⟨rfl, rfl⟩
        rw [i13]
        go_wp2_with fail
        refine (STEP.out _ wr (Mods.refl _ wr)).mono ?_
        rintro e w2 ⟨rfl, hR2⟩
        go_wp2_with fail
        go_roundg (ls.length - (j + 1))
        case measure => have := HK.out; omega
        case rel => exact ⟨j + 1, rfl, hlt, by rw [hr]; rfl, hR2⟩
      | cons y r =>
        rw [hr] at hdrop
        rw [hdrop] at hle hdl i13 hs7
        rw [hdrop]
        have i10 : idx1 (joinT (l :: y :: r)) 10 = (l.size : Int) := idx_first h10l
        have hx1 := ext_first l y r
        have hx2 := ext_rest l y r
        have hsz := joinT_size2 l y r
        have hp2 : 0 < (joinT (l :: y :: r)).size := by omega
        have e0 : (joinT (l :: y :: r)).toList.isEmpty = false := bs_ne hp2
        have e0' : (!(joinT (l :: y :: r)).toList.isEmpty) = true := by rw [e0]; rfl
        have v1 : (l.size : Int) + 1 ≤ (joinT (l :: y :: r)).size := by omega
        have v2 : (l.size : Int) ≤ (joinT (l :: y :: r)).size := by omega
        have v3 : ¬ ((l.size : Int) < 0) := by omega
        have v4 : (0 : Int) ≤ l.size := by omega
        have v5 : IntKind.i64.wrap ((l.size : Int) + 1) = (l.size : Int) + 1 := IntWalk.i64_in _ (by omega)
        have v6 : ((l.size : Int) + 1).toNat = l.size + 1 := by omega
        have v7 : (0 : Int) ≤ (l.size : Int) + 1 := by omega
        have HX2 := Lib.hid hx2
        generalize hJ : joinT (l :: y :: r) = J at *
        clear hR hle hdl hlmem h10l hdrop hJ hsz
        go_wp2_with fail
        refine (zzIndex_any J 10 _ hs7).mono ?_
        rintro e w' ⟨rfl, rfl⟩
        rw [i10]
        go_wp2_with fail
        refine (zzIndex_any J 13 _ hs7).mono ?_
        rintro e w' ⟨rfl, rfl⟩
        rw [i13]
        go_wp2_with fail
        first | go_quiet (fail) | skip
        go_wp2_with fail
        refine (STEP.out 10 _ ((Mods.refl _ wr).drewN nq)).mono ?_
        rintro e w2 ⟨rfl, hR2⟩
        go_wp2_with fail
        go_roundg (ls.length - (j + 1))
        case measure => have := HK.out; omega
        case rel => exact ⟨j + 1, rfl, hlt, by rw [hr, ← HX2.out], hR2⟩
    · have hjl : j = ls.length := by omega
      subst hjl
      rw [List.drop_length]
      obtain ⟨hmw2, g, cap, hgw, ⟨h0, _, _⟩ | ⟨_, bb, gt, ct, ea, eb, hbb, hgt, hP⟩⟩ := hR
      · exact absurd (List.length_eq_zero_iff.1 h0) hT.ne
      rw [List.take_length] at hP
      have e0 : (joinT ([] : List ByteArray)).toList.isEmpty = true := by simp [joinT, Lib.join, ByteArray.toList_eq]
      have e0' : (!(joinT ([] : List ByteArray)).toList.isEmpty) = false := by rw [e0]; rfl
      go_wp2_with fail
      refine (closed_many bp g cap pp ls.length gt ct bb (some ⟨W.heap.size, 0, none⟩) ea eb ls wr hT rfl hP).mono ?_
      rintro e w3 ⟨rfl, hTw⟩
      have hmw3 : Same w w3 := hmw2.then hTw.mods (fun b hb h => by omega)
      have hrs := hmw2.size
      obtain ⟨rk, pk, tb, tg, tc, ig, ic, x, y, x2, y2, hrk, hpk, htb, hRb, hPk, hTb, hps, htx, hin⟩ := hTw.ex
      clear hTw hP hmw2
      have k11 := hps.texts
      go_wp2_with fail
      go_loopg [83] 1 (fun k v83 wr2 => (k = 1 ∧ v83 = .int .i64 0 ∧ wr2 = w3) ∨ (k = 0 ∧ v83 = .int .i64 1 ∧ DocAt w wr2 bp rk pp (joinT ls) all))
      case atStart => exact Or.inl ⟨rfl, rfl, rfl⟩
      case round =>
        rcases hrel with ⟨rfl, rfl, rfl⟩ | ⟨rfl, rfl, hDA⟩
        · obtain ⟨_, _, he, _, _, hc⟩ := ownsRow_form htx (by omega)
          cases he
          have t0 := hc 0 _ rfl
          have r3 := hTb.cell 3
          go_wp2_with fail
          have hOw : Opt wr _ 3 false := (hO.same hmw3).opt (p := { p2 pp g cap with lineno := (ls.length : Nat), texts := .slice (some ⟨tg, 0, none⟩) 1 tc, stack := .slice (some ⟨g, 0, none⟩) 0 cap, root := .pointer (some ⟨rk, 0, none⟩) }) rfl 3 (by omega)
          refine (inline_any bp _ (joinT ls) wr hps hsm hpos all hg hOw (by have := hO.lt; show pp ≠ bp; omega) (trimSpaceTab_id (joinT ls) wr hs6 hpos hfirstT hlastT)).mono ?_
          rintro e w4 ⟨gl, n, lc, xs, rfl, hn0, hn1, c4, hH⟩
          have hTne : tb ≠ bp := by
            obtain ⟨tail, htl⟩ := id hps
            exact hTb.ne_of_type htl (by decide)
          have hT4 := hTb.keep1 hH.mods hTne
          have c2 : w4.cell? ⟨tb, 2, none⟩ = some (.slice none 0 0) := hT4.cell 2
          have f2 := hT4.fr 2
          have l2 := hT4.lt
          go_wp2_with fail
          go_roundg 0
          case measure => omega
          case rel => exact Or.inr ⟨rfl, rfl, docAt_mk hmw3 (by omega) (by omega) hps hRb hPk hTb hin hH hn0 hn1 rfl⟩
        · have hoff := (hO.same hDA.mods).opt (p := p0 pp) rfl 2 (by omega)
          have o2 : wr.cell? ⟨pp, 2, none⟩ = some (.bool false) := hoff.cell
          obtain ⟨q, hq, hq1⟩ := id hDA.ps
          have k1 := hq.root
          have k6 := hq.corner
          rw [hq1] at k1
          go_wp2_with fail
          go_quiet (fail)
          go_wp2_with fail
          go_ret2
          exact ⟨bp, rk, _, rfl, hDA.same ((Mods.refl _ wr).drewN nq)⟩
end Go.Proofs.YtdnlfdppjfjncaaGreatDoor

/- HTML of a paragraph of some lines. -/
namespace Go.Proofs.YtdnlfdppjfjncaaGreatDoor
open Go Go.RowKit Go.Proofs

theorem parser_Parse_many (pp : Nat) (ls : List ByteArray) (w : World) (hT : ParaText ls) (all : List Pc) (hg : Plan (joinT ls) 0 0 all) (hO : Off w pp) :
    Calls Tryz.prog 39 #[.pointer (some ⟨pp, 0, none⟩), .string (joinT ls)] w fun e w' => ∃ bp rk, e = .returned (.pointer (some ⟨rk, 0, none⟩)) ∧ DocAt w w' bp rk pp (joinT ls) all := by
  go_enter Tryz.func39, Tryz.ntmps39
  go_wp2_with fail
  refine (parse_many pp ls w hT all hg hO).mono ?_
  rintro e w' ⟨bp, rk, c, rfl, hD⟩
  go_wp2_with fail
  go_ret
  exact ⟨bp, rk, rfl, hD⟩

theorem impl_HTML_many (ls : List ByteArray) (w : World) (hT : ParaText ls) (all : List Pc) (hg : Plan (joinT ls) 0 0 all)
    (hlim : ∀ i, ((([] : List UInt8) ++ pOpen) ++ ((all).take i).flatMap outPc).length ≤ 10000000) (hsz : ∀ t, Pc.plain t ∈ all ∨ Pc.esc t ∈ all ∨ Pc.tag t ∈ all → t.size ≤ 1000000) (hau : ∀ t u, Pc.auto t u ∉ all) :
    Calls Tryz.prog 17 #[.agg #[.bool false, .bool false, .bool false, .bool false, .bool false, .bool false, .bool false, .bool false, .bool false, .bool false], .string (joinT ls)] w fun e w' => e = .returned (.string ⟨(pOpen ++ (all).flatMap outPc ++ pClose).toArray⟩) ∧ Same w w' :=
  impl_HTML_of (joinT ls) w hT.small all (fun pp w1 hO => parser_Parse_many pp ls w1 hT all hg hO) hlim hsz (fun t u h => absurd h (hau t u))
end Go.Proofs.YtdnlfdppjfjncaaGreatDoor
