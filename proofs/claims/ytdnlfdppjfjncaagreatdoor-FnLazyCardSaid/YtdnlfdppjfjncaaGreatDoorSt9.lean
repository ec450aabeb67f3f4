/- Some texts of one proof, put into one file: One0, Pr1, Ins, Inline3, ParaG, WordL, StruckI, StruckL. -/
import Derived.Deep.RegionWith
import Derived.Test.YtdnlfdppjfjncaaGreatDoorSt3
import Derived.Test.YtdnlfdppjfjncaaGreatDoorSt4
import Derived.Test.YtdnlfdppjfjncaaGreatDoorSt5
import Derived.Test.YtdnlfdppjfjncaaGreatDoorSt6
import Derived.Test.YtdnlfdppjfjncaaGreatDoorSt7
import Derived.Test.YtdnlfdppjfjncaaGreatDoorSt8
/- One line, whatever it begins with: the paragraph, closed. -/
namespace Go.Proofs.YtdnlfdppjfjncaaGreatDoor
open Go Go.RowKit Go.Proofs

/-- A line, whatever it begins with. -/
structure OneLn (s : ByteArray) : Prop where
  pos : 0 < s.size
  small : s.size ≤ 900000
  first : isW s[0] = false
  last : isW (s[s.size - 1]'(by omega)) = false
  no0 : ∀ i (hi : i < s.size), s[i] ≠ 0
  no10 : ∀ i (hi : i < s.size), s[i] ≠ 10
  no13 : ∀ i (hi : i < s.size), s[i] ≠ 13
  no91 : s[0] ≠ 91
  no9 : ∀ i (hi : i < s.size), s[i] ≠ 9

/-- What stands of the document when both blocks are closed. -/
structure TwoClosedC (w w' : World) (bp g cap pp : Nat) (cc : Bool) (s : ByteArray) : Prop where
  mods : Mods (fun k => k = bp ∨ k = g) w w'
  ex : ∃ rk pk tb tg tc ig ic, w.heap.size ≤ rk ∧ w.heap.size ≤ pk ∧ w.heap.size ≤ tb ∧
    Blk w' rk #[.int .i64 0, .int .i64 0, .slice (some ⟨ig, 0, none⟩) 1 ic, .map none] 339 ∧
    Blk w' pk #[.int .i64 1, .int .i64 1, .pointer (some ⟨tb, 0, none⟩)] 155 ∧
    Blk w' tb #[.int .i64 1, .int .i64 1, .slice none 0 0, .string s] 110 ∧
    PsAt w' bp { p2 pp g cap with corner := cc, texts := .slice (some ⟨tg, 0, none⟩) 1 tc, stack := .slice (some ⟨g, 0, none⟩) 0 cap, root := .pointer (some ⟨rk, 0, none⟩) } ∧
    w'.ownsRow 0 105 1 (.slice (some ⟨tg, 0, none⟩) 1 tc) 1 [.pointer (some ⟨tb, 0, none⟩)] ∧
    w'.ownsRow 0 68 1 (.slice (some ⟨ig, 0, none⟩) 1 ic) 1 [.iface 153 (.pointer (some ⟨pk, 0, none⟩))]

theorem closed_twoC (bp g cap bb pp : Nat) (cc : Bool) (tv : Value) (s : ByteArray) (v : Option Addr) (w : World) (hp : PsAt w bp { p2 pp g cap with corner := cc })
    (hown : w.ownsRow 0 121 4 (.slice (some ⟨g, 0, none⟩) (0 + 2) cap) (0 + 2) ([.iface 98 (.pointer v), .slice none 0 0, .int .i64 0, .int .i64 0] ++ [.iface 162 (.pointer (some ⟨bb, 0, none⟩)), .slice none 0 0, .int .i64 1, .int .i64 1]))
    (hB : Blk w bb #[tv, .pointer none] 166) (htv : w.ownsRow 0 9 1 tv 1 [.string s]) (hs : OneLn s) :
    Calls Tryz.prog 65 #[.pointer (some ⟨bp, 0, none⟩), .int .i64 0] w fun e w' => e = .returned (.tuple #[]) ∧ TwoClosedC w w' bp g cap pp cc s := by
  have hs6 : s.size ≤ 1000000 := by have := hs.small; omega
  obtain ⟨gt, ct, rfl, _, _, hc⟩ := ownsRow_form htv (by omega)
  have hc0 := hc 0 _ rfl
  have hJ : ∀ W, Same w W → Calls Tryz.prog 29 #[.slice (some ⟨gt, 0, none⟩) 1 ct, .string ⟨#[10]⟩] W fun e W' => e = .returned (.string s) ∧ Same W W' := fun W hW =>
    (join_one gt ct s ⟨#[10]⟩ W ((World.cell?_of_block (hW.block gt (World.block_lt_of_cell? _ _ hc0) (fun x => x))).trans hc0)).mono fun e W' ⟨h1, h2⟩ => ⟨h1, by rw [← h2]; exact Mods.refl _ _⟩
  have h91 := hs.no91
  have h10 := hs.no10 0 hs.pos
  have h9 := hs.no9 0 hs.pos
  have h32 : s[0]'hs.pos ≠ 32 := by intro h; have := hs.first; rw [h] at this; cases this
  have hcl := closePara bp bb g 0 cap 0 0 { p2 pp g cap with corner := cc } [] [] [] (.iface 98 (.pointer v)) (.slice none 0 0) (.slice none 0 0) _ 0 0 1 1 1 s w hp rfl (by omega) hown ⟨rfl, Or.inl ⟨rfl, rfl⟩⟩ (by omega) hB ⟨_, _, rfl⟩ (by omega)
    ⟨rfl, Or.inl ⟨rfl, rfl⟩⟩ (by omega) hJ hs.pos hs6 h32 h9 h10 h91 (by omega) (by omega)
  have hgen := trimStack_gen bp 0 (fun k W => match k with
    | 2 => W = w
    | 1 => ∃ u, ParaClosed w W bp g 0 cap 0 0 { p2 pp g cap with corner := cc } [] [] [] (.iface 98 (.pointer v)) (.slice none 0 0) 0 0 1 (1 + (1 : Nat) - 1) s u
    | 0 => TwoClosedC w W bp g cap pp cc s
    | _ => False) (by omega) ?_ ?_ 2 w rfl
  · exact hgen
  · intro k W hP
    match k, hP with
    | 2, hP => subst hP; exact ⟨by omega, _, _, hp.stack⟩
    | 1, ⟨u, hPC⟩ =>
      obtain ⟨pk, tb, tg, tc, ig, ic, _, _, _, _, _, h, _⟩ := hPC.ex
      exact ⟨by omega, _, _, h.stack⟩
    | 0, hP =>
      obtain ⟨rk, pk, tb, tg, tc, ig, ic, _, _, _, _, _, _, h, _⟩ := hP.ex
      exact ⟨by omega, _, _, h.stack⟩
  · intro k W hP
    match k, hP with
    | 1, hP => subst hP; exact hcl.mono fun e w' ⟨v1, h1, h2⟩ => ⟨v1, h1, v1, h2⟩
    | 0, ⟨u, hPC⟩ =>
      obtain ⟨pk, tb, tg, tc, ig, ic, _, hpk, htb, hPb, hTb, hps, htx, hrow, hin⟩ := hPC.ex
      refine (closeRoot bp g cap _ v (some ⟨ig, 0, none⟩) 1 ic none 0 0 W hps rfl hrow rfl).mono ?_
      rintro e W' ⟨u', rfl, hm, rk, hrk, hR, hps'⟩
      have h1 := hPC.mods.size
      have hne : ∀ {b : Nat} {cs : Array Value} {T : Nat}, Blk W b cs T → T ≠ 95 → ¬ (b = bp) := fun h hT => by
        obtain ⟨tail, htl⟩ := id hps
        exact h.ne_of_type htl hT
      refine ⟨u', rfl, ?_, rk, pk, tb, tg, tc, ig, ic, by omega, hpk, htb, hR, hPb.keep hm (hne hPb (by decide)), hTb.keep hm (hne hTb (by decide)), hps', ?_, ?_⟩
      · refine (hPC.mods.mono (fun k _ h => ?_)).trans (hm.mono (fun _ _ h => Or.inl h))
        rcases h with h | h | h | h
        · exact Or.inl h
        · exact Or.inr h
        · cases h
        · cases h
      · exact ownsRow_keep htx hm (fun k hk x => own_ne_ps htx hps (by decide) (by rw [← x]; exact hk))
      · exact ownsRow_keep hin hm (fun k hk x => own_ne_ps hin hps (by decide) (by rw [← x]; exact hk))

/-- A text of one line without a line feed. -/
theorem feed_one {s : ByteArray} (hs : OneLn s) : Feed (fun j => if j = 0 then s else ⟨#[]⟩) [s] where
  done := rfl
  step := by
    intro j l hl
    cases j with
    | zero =>
      have : s = l := Option.some.inj hl
      subst this
      exact Or.inr ⟨rfl, hs.pos, rfl⟩
    | succ j => simp at hl
  no10 := by
    intro l hl
    have : l = s := by simpa using hl
    subst this
    exact hs.no10
  no13 := by
    intro j i hi
    by_cases h : j = 0
    · subst h; exact hs.no13 i hi
    · exact absurd hi (by show ¬ i < (if j = 0 then s else ⟨#[]⟩ : ByteArray).size; rw [if_neg h]; exact Nat.not_lt_zero _)
  no0 := fun i hi => hs.no0 i hi
  small := by
    intro j
    by_cases h : j = 0
    · subst h; exact hs.small
    · show (if j = 0 then s else ⟨#[]⟩ : ByteArray).size ≤ 900000; rw [if_neg h]; exact Nat.zero_le _
  count := by simp

/-- What has been read behind j lines. -/
def R1 (w : World) (pp : Nat) (s : ByteArray) (j : Nat) (W : World) : Prop :=
  Same w W ∧ ∃ g cap v, w.heap.size ≤ g ∧
    ((j = 0 ∧ PsAt W w.heap.size { p0 pp with stack := .slice (some ⟨g, 0, none⟩) 1 cap } ∧ W.ownsRow 0 121 4 (.slice (some ⟨g, 0, none⟩) 1 cap) 1 [rootV' v, .slice none 0 0, .int .i64 0, .int .i64 0]) ∨
     (j = 1 ∧ ∃ c bb tv, PsAt W w.heap.size { p2 pp g cap with corner := c } ∧ w.heap.size ≤ bb ∧
       W.ownsRow 0 121 4 (.slice (some ⟨g, 0, none⟩) (0 + 2) cap) (0 + 2) ([rootV' v, .slice none 0 0, .int .i64 0, .int .i64 0] ++ [.iface 162 (.pointer (some ⟨bb, 0, none⟩)), .slice none 0 0, .int .i64 1, .int .i64 1]) ∧
       Blk W bb #[tv, .pointer none] 166 ∧ W.ownsRow 0 9 1 tv 1 [.string s]))
end Go.Proofs.YtdnlfdppjfjncaaGreatDoor

/- What a block or an inline prints as HTML, whatever it is. -/
namespace Go.Proofs.YtdnlfdppjfjncaaGreatDoor
open Go Go.RowKit Go.Proofs

/-- Printed from the world w0 on, the value v of type T gives out. -/
def Prints (w0 : World) (T : Nat) (v : Value) (out : List UInt8) : Prop :=
  ∃ fn r, (∀ k w, (method (k + 2) T v "PrintHTML").run Tryz.prog w = .ok (fn, r) w) ∧ (∀ a c w, (callFunc fn #[a, c]).run Tryz.prog w = .ok (.enter fn #[a, c]) w) ∧
    ∀ (B b : Nat) (l : List UInt8) (w : World), Same w0 w → w0.heap.size ≤ B → B ≤ w.heap.size → Lib.IsBuffer 72 5 B b (Lib.byteCells l) w → l.length + out.length ≤ 10000000 →
      Calls Tryz.prog fn #[r, .pointer (some ⟨b, 0, none⟩)] w fun e w' => e = .returned (.tuple #[]) ∧ Wrote w w' B b (l ++ out)

theorem Prints.same {w0 w1 : World} {T : Nat} {v : Value} {out : List UInt8} (h : Prints w0 T v out) (hm : Same w0 w1) : Prints w1 T v out := by
  obtain ⟨fn, r, h1, h3, h2⟩ := h
  have hz := hm.size
  exact ⟨fn, r, h1, h3, fun B b l w hS hB hBw hb hl => h2 B b l w (hm.trans hS) (by omega) hBw hb hl⟩

/-- The same of a row of them. -/
inductive RowPrints (w0 : World) : List Value → List (List UInt8) → Prop
  | nil : RowPrints w0 [] []
  | cons {T : Nat} {v : Value} {xs : List Value} {o : List UInt8} {os : List (List UInt8)} (h : Prints w0 T v o) (hr : RowPrints w0 xs os) : RowPrints w0 (.iface T v :: xs) (o :: os)
theorem RowPrints.same {w0 w1 : World} {xs : List Value} {os : List (List UInt8)} (h : RowPrints w0 xs os) (hm : Same w0 w1) : RowPrints w1 xs os := by
  induction h with
  | nil => exact .nil
  | cons h _ ih => exact .cons (h.same hm) ih
theorem RowPrints.len {w0 : World} {xs : List Value} {os : List (List UInt8)} (h : RowPrints w0 xs os) : xs.length = os.length := by
  induction h with
  | nil => rfl
  | cons _ _ ih => simp [ih]
theorem RowPrints.get {w0 : World} {xs : List Value} {os : List (List UInt8)} (h : RowPrints w0 xs os) : ∀ (i : Nat), i < xs.length → ∃ T v o, xs[i]? = some (.iface T v) ∧ os[i]? = some o ∧ Prints w0 T v o := by
  induction h with
  | nil => intro i hi; exact absurd hi (Nat.not_lt_zero _)
  | @cons T v xs o os h hr ih =>
    intro i hi
    cases i with
    | zero => exact ⟨T, v, o, rfl, rfl, h⟩
    | succ i =>
      obtain ⟨T', v', o', h1, h2, h3⟩ := ih i (by simpa using hi)
      exact ⟨T', v', o', by simpa using h1, by simpa using h2, h3⟩
theorem flat_succ {os : List (List UInt8)} {i : Nat} {o : List UInt8} (h : os[i]? = some o) : (os.take (i + 1)).flatten = (os.take i).flatten ++ o := by
  rw [List.take_add_one, List.flatten_append, h]
  simp
theorem flat_le (os : List (List UInt8)) (i : Nat) : (os.take i).flatten.length ≤ os.flatten.length := by
  have := congrArg (fun l => l.flatten.length) (List.take_append_drop i os)
  simp only [List.flatten_append, List.length_append] at this
  omega

theorem Wrote.sameG {w0 w w' : World} {B b : Nat} {l : List UInt8} (hS : Same w0 w) (hB : w0.heap.size ≤ B) (h : Wrote w w' B b l) : Same w0 w' :=
  Mods.then hS (Below.mods (S := fun k => B ≤ k) h.below (fun k _ hk => hk)) (fun b hb hk => by omega)

set_option maxRecDepth 100000 in
set_option maxHeartbeats 4000000 in
theorem doc_prints (w0 : World) (rk n : Nat) (x y : Int) (m : Value) (v : Value) (xs : List Value) (os : List (List UInt8)) (hR : Blk w0 rk #[.int .i64 x, .int .i64 y, v, m] 339) (hown : w0.ownsRow 0 68 1 v n xs) (hn0 : 0 < n) (hn6 : n ≤ 1000000) (hx : RowPrints w0 xs os)
    (B b : Nat) (l : List UInt8) (w : World) (hS : Same w0 w) (hB : w0.heap.size ≤ B) (hBw : B ≤ w.heap.size) (h : Lib.IsBuffer 72 5 B b (Lib.byteCells l) w) (hl : l.length + os.flatten.length + 0 ≤ 10000000) :
    Calls Tryz.prog 244 #[.pointer (some ⟨rk, 0, none⟩), .pointer (some ⟨b, 0, none⟩)] w fun e w' => e = .returned (.tuple #[]) ∧ Wrote w w' B b (l ++ os.flatten) := by
  have hlen := hx.len
  have hxl := hown.1
  have hos : os.length = n := by omega
  obtain ⟨gl, lc, he, ⟨cur, hcur⟩, _, hc⟩ := ownsRow_form hown hn0
  subst he
  have hRw := hS.blk hR
  have c2 : w.cell? ⟨rk, 2, none⟩ = some (.slice (some ⟨gl, 0, none⟩) n lc) := hRw.cell 2
  go_enter Tryz.func244, Tryz.ntmps244
  go_wp2_with fail
  go_loopg [11] n (fun m v wr => ∃ i : Nat, v = .int .i64 i ∧ m = n - i ∧ i ≤ n ∧ Wrote w wr B b (l ++ (os.take i).flatten))
  case atStart => exact ⟨0, rfl, rfl, Nat.zero_le _, by simpa using h, Below.refl _ _, Lib.OthersKept.refl _ _ _⟩
  case round =>
    obtain ⟨i, rfl, rfl, hi, hW⟩ := hrel
    have hSr := Wrote.sameG hS hB hW
    have HW := Lib.hid hW
    clear hW c2
    by_cases hlt : i < n
    · have w1 : (i : Int) < n := by omega
      have w2 : (0 : Int) ≤ i := by omega
      have w3 : IntKind.i64.wrap ((i : Int) + 1) = (i : Int) + 1 := IntWalk.i64_in _ (by omega)
      obtain ⟨T, u, o, hu, ho, hpr⟩ := hx.get i (by omega)
      have hc1 := hc i _ hu
      have hc2 : wr.cell? ⟨gl, i, none⟩ = some (.iface T u) := (World.cell?_of_block (hSr.block gl (World.block_lt_of_cell? _ _ hc1) (fun x => x))).trans hc1
      obtain ⟨fn, r, hmeth, hent, hcall⟩ := hpr
      have HC := Lib.hid hcall
      clear hc1 hu hcall
      go_wp2_with fail
      refine (HC.out B b _ wr hSr hB (by have := HW.out.below.size; omega) HW.out.buf ?_).mono ?_
      · have h1 := flat_le os (i + 1)
        rw [flat_succ ho, List.length_append] at h1
        rw [List.length_append]
        omega
      · rintro e w5 ⟨rfl, hW5⟩
        go_wp2_with fail
        go_roundg (n - (i + 1))
        case measure => omega
        case rel => exact ⟨i + 1, by simp, rfl, by omega, by rw [flat_succ ho, ← List.append_assoc]; exact HW.out.trans hW5⟩
    · have hin : i = n := by omega
      subst hin
      have w1 : ¬ ((i : Int) < i) := by omega
      go_wp2_with fail
      go_end0
      refine ⟨rfl, ?_⟩
      have := HW.out
      rw [← hos, List.take_length] at this
      exact this

set_option maxRecDepth 100000 in
set_option maxHeartbeats 4000000 in
theorem text_prints (w0 : World) (rk n : Nat) (x y : Int) (m : Value) (v : Value) (xs : List Value) (os : List (List UInt8)) (hR : Blk w0 rk #[.int .i64 x, .int .i64 y, v, m] 110) (hown : w0.ownsRow 0 132 1 v n xs) (hn0 : 0 < n) (hn6 : n ≤ 1000000) (hx : RowPrints w0 xs os)
    (B b : Nat) (l : List UInt8) (w : World) (hS : Same w0 w) (hB : w0.heap.size ≤ B) (hBw : B ≤ w.heap.size) (h : Lib.IsBuffer 72 5 B b (Lib.byteCells l) w) (hl : l.length + os.flatten.length + 0 ≤ 10000000) :
    Calls Tryz.prog 249 #[.pointer (some ⟨rk, 0, none⟩), .pointer (some ⟨b, 0, none⟩)] w fun e w' => e = .returned (.tuple #[]) ∧ Wrote w w' B b (l ++ os.flatten) := by
  have hlen := hx.len
  have hxl := hown.1
  have hos : os.length = n := by omega
  obtain ⟨gl, lc, he, ⟨cur, hcur⟩, _, hc⟩ := ownsRow_form hown hn0
  subst he
  have hRw := hS.blk hR
  have c2 : w.cell? ⟨rk, 2, none⟩ = some (.slice (some ⟨gl, 0, none⟩) n lc) := hRw.cell 2
  go_enter Tryz.func249, Tryz.ntmps249
  go_wp2_with fail
  go_loopg [11] n (fun m v wr => ∃ i : Nat, v = .int .i64 i ∧ m = n - i ∧ i ≤ n ∧ Wrote w wr B b (l ++ (os.take i).flatten))
  case atStart => exact ⟨0, rfl, rfl, Nat.zero_le _, by simpa using h, Below.refl _ _, Lib.OthersKept.refl _ _ _⟩
  case round =>
    obtain ⟨i, rfl, rfl, hi, hW⟩ := hrel
    have hSr := Wrote.sameG hS hB hW
    have HW := Lib.hid hW
    clear hW c2
    by_cases hlt : i < n
    · have w1 : (i : Int) < n := by omega
      have w2 : (0 : Int) ≤ i := by omega
      have w3 : IntKind.i64.wrap ((i : Int) + 1) = (i : Int) + 1 := IntWalk.i64_in _ (by omega)
      obtain ⟨T, u, o, hu, ho, hpr⟩ := hx.get i (by omega)
      have hc1 := hc i _ hu
      have hc2 : wr.cell? ⟨gl, i, none⟩ = some (.iface T u) := (World.cell?_of_block (hSr.block gl (World.block_lt_of_cell? _ _ hc1) (fun x => x))).trans hc1
      obtain ⟨fn, r, hmeth, hent, hcall⟩ := hpr
      have HC := Lib.hid hcall
      clear hc1 hu hcall
      go_wp2_with fail
      refine (HC.out B b _ wr hSr hB (by have := HW.out.below.size; omega) HW.out.buf ?_).mono ?_
      · have h1 := flat_le os (i + 1)
        rw [flat_succ ho, List.length_append] at h1
        rw [List.length_append]
        omega
      · rintro e w5 ⟨rfl, hW5⟩
        go_wp2_with fail
        go_roundg (n - (i + 1))
        case measure => omega
        case rel => exact ⟨i + 1, by simp, rfl, by omega, by rw [flat_succ ho, ← List.append_assoc]; exact HW.out.trans hW5⟩
    · have hin : i = n := by omega
      subst hin
      have w1 : ¬ ((i : Int) < i) := by omega
      go_wp2_with fail
      go_end0
      refine ⟨rfl, ?_⟩
      have := HW.out
      rw [← hos, List.take_length] at this
      exact this

set_option maxRecDepth 100000 in
set_option maxHeartbeats 4000000 in
theorem quote_prints (w0 : World) (rk n : Nat) (x y : Int) (v : Value) (xs : List Value) (os : List (List UInt8)) (hR : Blk w0 rk #[.int .i64 x, .int .i64 y, v] 367) (hown : w0.ownsRow 0 68 1 v n xs) (hn0 : 0 < n) (hn6 : n ≤ 1000000) (hx : RowPrints w0 xs os)
    (B b : Nat) (l : List UInt8) (w : World) (hS : Same w0 w) (hB : w0.heap.size ≤ B) (hBw : B ≤ w.heap.size) (h : Lib.IsBuffer 72 5 B b (Lib.byteCells l) w) (hl : l.length + os.flatten.length + 27 ≤ 10000000) :
    Calls Tryz.prog 363 #[.pointer (some ⟨rk, 0, none⟩), .pointer (some ⟨b, 0, none⟩)] w fun e w' => e = .returned (.tuple #[]) ∧ Wrote w w' B b (l ++ [60, 98, 108, 111, 99, 107, 113, 117, 111, 116, 101, 62, 10] ++ os.flatten ++ [60, 47, 98, 108, 111, 99, 107, 113, 117, 111, 116, 101, 62, 10]) := by
  have hlen := hx.len
  have hxl := hown.1
  have hos : os.length = n := by omega
  obtain ⟨gl, lc, he, ⟨cur, hcur⟩, _, hc⟩ := ownsRow_form hown hn0
  subst he
  have hRw := hS.blk hR
  have c2 : w.cell? ⟨rk, 2, none⟩ = some (.slice (some ⟨gl, 0, none⟩) n lc) := hRw.cell 2
  go_enter Tryz.func363, Tryz.ntmps363
  go_wp2_with fail
  refine (write_string B b l ⟨#[60, 98, 108, 111, 99, 107, 113, 117, 111, 116, 101, 62, 10]⟩ w h hBw (by omega) (by decide)).mono ?_
  rintro e w1 ⟨rfl, h1⟩
  have hS1 := Wrote.sameG hS hB h1
  have hRw1 := hS1.blk hR
  have c3 : w1.cell? ⟨rk, 2, none⟩ = some (.slice (some ⟨gl, 0, none⟩) n lc) := hRw1.cell 2
  have h1' : Wrote w w1 B b (l ++ [60, 98, 108, 111, 99, 107, 113, 117, 111, 116, 101, 62, 10]) := h1
  have H1 := Lib.hid h1'
  clear h1 h1' c2
  go_wp2_with fail
  go_loopg [13] n (fun m v wr => ∃ i : Nat, v = .int .i64 i ∧ m = n - i ∧ i ≤ n ∧ Wrote w wr B b (l ++ [60, 98, 108, 111, 99, 107, 113, 117, 111, 116, 101, 62, 10] ++ (os.take i).flatten))
  case atStart => exact ⟨0, rfl, rfl, Nat.zero_le _, by simpa using H1.out⟩
  case round =>
    obtain ⟨i, rfl, rfl, hi, hW⟩ := hrel
    have hSr := Wrote.sameG hS hB hW
    have HW := Lib.hid hW
    clear hW c3
    by_cases hlt : i < n
    · have w1 : (i : Int) < n := by omega
      have w2 : (0 : Int) ≤ i := by omega
      have w3 : IntKind.i64.wrap ((i : Int) + 1) = (i : Int) + 1 := IntWalk.i64_in _ (by omega)
      obtain ⟨T, u, o, hu, ho, hpr⟩ := hx.get i (by omega)
      have hc1 := hc i _ hu
      have hc2 : wr.cell? ⟨gl, i, none⟩ = some (.iface T u) := (World.cell?_of_block (hSr.block gl (World.block_lt_of_cell? _ _ hc1) (fun x => x))).trans hc1
      obtain ⟨fn, r, hmeth, hent, hcall⟩ := hpr
      have HC := Lib.hid hcall
      clear hc1 hu hcall
      go_wp2_with fail
      refine (HC.out B b _ wr hSr hB (by have := HW.out.below.size; omega) HW.out.buf ?_).mono ?_
      · have h1 := flat_le os (i + 1)
        rw [flat_succ ho, List.length_append] at h1
        simp only [List.length_append, List.length_cons, List.length_nil]
        omega
      · rintro e w5 ⟨rfl, hW5⟩
        go_wp2_with fail
        go_roundg (n - (i + 1))
        case measure => omega
        case rel => exact ⟨i + 1, by simp, rfl, by omega, by rw [flat_succ ho, ← List.append_assoc]; exact HW.out.trans hW5⟩
    · have hin : i = n := by omega
      subst hin
      have w1 : ¬ ((i : Int) < i) := by omega
      have hW9 := HW.out
      rw [← hos, List.take_length] at hW9
      go_wp2_with fail
      refine (write_string B b _ ⟨#[60, 47, 98, 108, 111, 99, 107, 113, 117, 111, 116, 101, 62, 10]⟩ wr hW9.buf (by have := hW9.below.size; omega) ?_ (by decide)).mono ?_
      · simp only [List.length_append, List.length_cons, List.length_nil]
        omega
      · rintro e w6 ⟨rfl, h6⟩
        go_wp2_with fail
        go_end0
        exact ⟨rfl, hW9.trans h6⟩

set_option maxRecDepth 100000 in
set_option maxHeartbeats 4000000 in
theorem del_prints (w0 : World) (rk n : Nat) (TD : Nat) (m : Value) (v : Value) (xs : List Value) (os : List (List UInt8)) (hR : Blk w0 rk #[m, v] TD) (hown : w0.ownsRow 0 132 1 v n xs) (hn0 : 0 < n) (hn6 : n ≤ 1000000) (hx : RowPrints w0 xs os)
    (B b : Nat) (l : List UInt8) (w : World) (hS : Same w0 w) (hB : w0.heap.size ≤ B) (hBw : B ≤ w.heap.size) (h : Lib.IsBuffer 72 5 B b (Lib.byteCells l) w) (hl : l.length + os.flatten.length + 11 ≤ 10000000) :
    Calls Tryz.prog 322 #[.pointer (some ⟨rk, 0, none⟩), .pointer (some ⟨b, 0, none⟩)] w fun e w' => e = .returned (.tuple #[]) ∧ Wrote w w' B b (l ++ [60, 100, 101, 108, 62] ++ os.flatten ++ [60, 47, 100, 101, 108, 62]) := by
  have hlen := hx.len
  have hxl := hown.1
  have hos : os.length = n := by omega
  obtain ⟨gl, lc, he, ⟨cur, hcur⟩, _, hc⟩ := ownsRow_form hown hn0
  subst he
  have hRw := hS.blk hR
  have c2 : w.cell? ⟨rk, 1, none⟩ = some (.slice (some ⟨gl, 0, none⟩) n lc) := hRw.cell 1
  go_enter Tryz.func322, Tryz.ntmps322
  go_wp2_with fail
  refine (write_string B b l ⟨#[60, 100, 101, 108, 62]⟩ w h hBw (by omega) (by decide)).mono ?_
  rintro e w1 ⟨rfl, h1⟩
  have hS1 := Wrote.sameG hS hB h1
  have hRw1 := hS1.blk hR
  have c3 : w1.cell? ⟨rk, 1, none⟩ = some (.slice (some ⟨gl, 0, none⟩) n lc) := hRw1.cell 1
  have h1' : Wrote w w1 B b (l ++ [60, 100, 101, 108, 62]) := h1
  have H1 := Lib.hid h1'
  clear h1 h1' c2
  go_wp2_with fail
  go_loopg [13] n (fun m v wr => ∃ i : Nat, v = .int .i64 i ∧ m = n - i ∧ i ≤ n ∧ Wrote w wr B b (l ++ [60, 100, 101, 108, 62] ++ (os.take i).flatten))
  case atStart => exact ⟨0, rfl, rfl, Nat.zero_le _, by simpa using H1.out⟩
  case round =>
    obtain ⟨i, rfl, rfl, hi, hW⟩ := hrel
    have hSr := Wrote.sameG hS hB hW
    have HW := Lib.hid hW
    clear hW c3
    by_cases hlt : i < n
    · have w1 : (i : Int) < n := by omega
      have w2 : (0 : Int) ≤ i := by omega
      have w3 : IntKind.i64.wrap ((i : Int) + 1) = (i : Int) + 1 := IntWalk.i64_in _ (by omega)
      obtain ⟨T, u, o, hu, ho, hpr⟩ := hx.get i (by omega)
      have hc1 := hc i _ hu
      have hc2 : wr.cell? ⟨gl, i, none⟩ = some (.iface T u) := (World.cell?_of_block (hSr.block gl (World.block_lt_of_cell? _ _ hc1) (fun x => x))).trans hc1
      obtain ⟨fn, r, hmeth, hent, hcall⟩ := hpr
      have HC := Lib.hid hcall
      clear hc1 hu hcall
      go_wp2_with fail
      refine (HC.out B b _ wr hSr hB (by have := HW.out.below.size; omega) HW.out.buf ?_).mono ?_
      · have h1 := flat_le os (i + 1)
        rw [flat_succ ho, List.length_append] at h1
        simp only [List.length_append, List.length_cons, List.length_nil]
        omega
      · rintro e w5 ⟨rfl, hW5⟩
        go_wp2_with fail
        go_roundg (n - (i + 1))
        case measure => omega
        case rel => exact ⟨i + 1, by simp, rfl, by omega, by rw [flat_succ ho, ← List.append_assoc]; exact HW.out.trans hW5⟩
    · have hin : i = n := by omega
      subst hin
      have w1 : ¬ ((i : Int) < i) := by omega
      have hW9 := HW.out
      rw [← hos, List.take_length] at hW9
      go_wp2_with fail
      refine (write_string B b _ ⟨#[60, 47, 100, 101, 108, 62]⟩ wr hW9.buf (by have := hW9.below.size; omega) ?_ (by decide)).mono ?_
      · simp only [List.length_append, List.length_cons, List.length_nil]
        omega
      · rintro e w6 ⟨rfl, h6⟩
        go_wp2_with fail
        go_end0
        exact ⟨rfl, hW9.trans h6⟩

set_option maxHeartbeats 4000000 in
theorem para_prints (w0 : World) (pk tb n : Nat) (x y x' y' : Int) (v m : Value) (xs : List Value) (os : List (List UInt8)) (hP : Blk w0 pk #[.int .i64 x', .int .i64 y', .pointer (some ⟨tb, 0, none⟩)] 155)
    (hR : Blk w0 tb #[.int .i64 x, .int .i64 y, v, m] 110) (hown : w0.ownsRow 0 132 1 v n xs) (hn0 : 0 < n) (hn6 : n ≤ 1000000) (hx : RowPrints w0 xs os)
    (B b : Nat) (l : List UInt8) (w : World) (hS : Same w0 w) (hB : w0.heap.size ≤ B) (hBw : B ≤ w.heap.size) (h : Lib.IsBuffer 72 5 B b (Lib.byteCells l) w) (hl : l.length + os.flatten.length + 8 ≤ 10000000) :
    Calls Tryz.prog 282 #[.pointer (some ⟨pk, 0, none⟩), .pointer (some ⟨b, 0, none⟩)] w fun e w' => e = .returned (.tuple #[]) ∧ Wrote w w' B b (l ++ (pOpen ++ os.flatten ++ pClose)) := by
  go_enter Tryz.func282, Tryz.ntmps282
  go_wp2_with fail
  refine (write_string B b l ⟨#[60, 112, 62]⟩ w h hBw (by omega) (by decide)).mono ?_
  rintro e w1 ⟨rfl, h1⟩
  have hS1 := Wrote.sameG hS hB h1
  have hP1 := hS1.blk hP
  have c2 : w1.cell? ⟨pk, 2, none⟩ = some (.pointer (some ⟨tb, 0, none⟩)) := hP1.cell 2
  go_wp2_with fail
  refine (text_prints w0 tb n x y m v xs os hR hown hn0 hn6 hx B b (l ++ pOpen) w1 hS1 hB (by have := h1.below.size; omega) h1.buf ?_).mono ?_
  · have : pOpen.length = 3 := rfl
    rw [List.length_append]
    omega
  · rintro e w2 ⟨rfl, h2⟩
    have h3 := h1.trans h2
    go_wp2_with fail
    refine (write_string B b _ ⟨#[60, 47, 112, 62, 10]⟩ w2 h3.buf (by have := h3.below.size; omega) ?_ (by decide)).mono ?_
    · have : pOpen.length = 3 := rfl
      simp only [List.length_append]
      omega
    · rintro e w3 ⟨rfl, h4⟩
      go_wp2_with fail
      go_end0
      have h5 := h3.trans h4
      have e1 : l ++ (pOpen ++ os.flatten ++ pClose) = l ++ pOpen ++ os.flatten ++ (⟨#[60, 47, 112, 62, 10]⟩ : ByteArray).data.toList := by simp [pClose]
      rw [e1]
      exact ⟨rfl, h5⟩

theorem m_print_del (k : Nat) (a : Addr) (w : World) : (method (k + 1) 217 (.pointer (some a)) "PrintHTML").run Tryz.prog w = .ok (322, .pointer (some a)) w := by kernel_rfl
theorem m_print_quote (k : Nat) (a : Addr) (w : World) : (method (k + 1) 365 (.pointer (some a)) "PrintHTML").run Tryz.prog w = .ok (363, .pointer (some a)) w := by kernel_rfl

theorem Prints.doc {w0 : World} {rk n : Nat} {x y : Int} {m v : Value} {xs : List Value} {os : List (List UInt8)} (hR : Blk w0 rk #[.int .i64 x, .int .i64 y, v, m] 339) (hown : w0.ownsRow 0 68 1 v n xs) (hn0 : 0 < n) (hn6 : n ≤ 1000000) (hx : RowPrints w0 xs os) :
    Prints w0 48 (.pointer (some ⟨rk, 0, none⟩)) os.flatten :=
  ⟨244, .pointer (some ⟨rk, 0, none⟩), fun k w => m_print_doc (k + 1) _ w, fun a c w => by kernel_rfl, fun B b l w hS hB hBw hb hl => doc_prints w0 rk n x y m v xs os hR hown hn0 hn6 hx B b l w hS hB hBw hb (by omega)⟩
theorem Prints.quote {w0 : World} {rk n : Nat} {x y : Int} {v : Value} {xs : List Value} {os : List (List UInt8)} (hR : Blk w0 rk #[.int .i64 x, .int .i64 y, v] 367) (hown : w0.ownsRow 0 68 1 v n xs) (hn0 : 0 < n) (hn6 : n ≤ 1000000) (hx : RowPrints w0 xs os) :
    Prints w0 365 (.pointer (some ⟨rk, 0, none⟩)) ([60, 98, 108, 111, 99, 107, 113, 117, 111, 116, 101, 62, 10] ++ os.flatten ++ [60, 47, 98, 108, 111, 99, 107, 113, 117, 111, 116, 101, 62, 10]) :=
  ⟨363, .pointer (some ⟨rk, 0, none⟩), fun k w => m_print_quote (k + 1) _ w, fun a c w => by kernel_rfl, fun B b l w hS hB hBw hb hl => by
    have h := quote_prints w0 rk n x y v xs os hR hown hn0 hn6 hx B b l w hS hB hBw hb (by simp only [List.length_append, List.length_cons, List.length_nil] at hl; omega)
    simpa only [List.append_assoc] using h⟩
theorem Prints.del {w0 : World} {rk n TD : Nat} {m v : Value} {xs : List Value} {os : List (List UInt8)} (hR : Blk w0 rk #[m, v] TD) (hown : w0.ownsRow 0 132 1 v n xs) (hn0 : 0 < n) (hn6 : n ≤ 1000000) (hx : RowPrints w0 xs os) :
    Prints w0 217 (.pointer (some ⟨rk, 0, none⟩)) ([60, 100, 101, 108, 62] ++ os.flatten ++ [60, 47, 100, 101, 108, 62]) :=
  ⟨322, .pointer (some ⟨rk, 0, none⟩), fun k w => m_print_del (k + 1) _ w, fun a c w => by kernel_rfl, fun B b l w hS hB hBw hb hl => by
    have h := del_prints w0 rk n TD m v xs os hR hown hn0 hn6 hx B b l w hS hB hBw hb (by simp only [List.length_append, List.length_cons, List.length_nil] at hl; omega)
    simpa only [List.append_assoc] using h⟩
theorem Prints.para {w0 : World} {pk tb n : Nat} {x y x' y' : Int} {v m : Value} {xs : List Value} {os : List (List UInt8)} (hP : Blk w0 pk #[.int .i64 x', .int .i64 y', .pointer (some ⟨tb, 0, none⟩)] 155)
    (hR : Blk w0 tb #[.int .i64 x, .int .i64 y, v, m] 110) (hown : w0.ownsRow 0 132 1 v n xs) (hn0 : 0 < n) (hn6 : n ≤ 1000000) (hx : RowPrints w0 xs os) :
    Prints w0 153 (.pointer (some ⟨pk, 0, none⟩)) (pOpen ++ os.flatten ++ pClose) :=
  ⟨282, .pointer (some ⟨pk, 0, none⟩), fun k w => m_print_para (k + 1) _ w, fun a c w => by kernel_rfl, fun B b l w hS hB hBw hb hl => para_prints w0 pk tb n x y x' y' v m xs os hP hR hown hn0 hn6 hx B b l w hS hB hBw hb (by
    have h1 : pOpen.length = 3 := rfl
    have h2 : pClose.length = 5 := rfl
    simp only [List.length_append] at hl
    omega)⟩
theorem Prints.plain {w0 : World} {xb : Nat} {t : ByteArray} (hX : Blk w0 xb #[.string t] 137) (ht : t.size ≤ 1000000) : Prints w0 156 (.pointer (some ⟨xb, 0, none⟩)) (escN t t.size) :=
  ⟨262, .pointer (some ⟨xb, 0, none⟩), fun k w => m_print_plain (k + 1) _ w, fun a c w => by kernel_rfl, fun B b l w hS hB hBw hb hl => plain_print B b xb l t w hb hBw (by omega) ht ((hS.blk hX).cell 0) (by have := hX.lt; omega)⟩
theorem Prints.esc {w0 : World} {xb : Nat} {t : ByteArray} (hX : Blk w0 xb #[.string t] 178) (ht : t.size ≤ 1000000) : Prints w0 176 (.pointer (some ⟨xb, 0, none⟩)) (escN t t.size) :=
  ⟨262, .pointer (some ⟨xb, 0, none⟩), fun k w => m_print_esc k _ w, fun a c w => by kernel_rfl, fun B b l w hS hB hBw hb hl => plain_print B b xb l t w hb hBw (by omega) ht ((hS.blk hX).cell 0) (by have := hX.lt; omega)⟩

set_option maxHeartbeats 4000000 in
theorem toHTML_gen (w0 : World) (T : Nat) (v : Value) (out : List UInt8) (h : Prints w0 T v out) (hl : out.length ≤ 10000000) :
    Calls Tryz.prog 37 #[.iface T v] w0 fun e w' => e = .returned (.string ⟨out.toArray⟩) ∧ Same w0 w' := by
  obtain ⟨fn, r, hmeth, hent, hcall⟩ := h
  have HC := Lib.hid hcall
  clear hcall
  go_enter Tryz.func37, Tryz.ntmps37
  go_wp2_with fail
  have hS : Same w0 (w0.alloc (.cells #[.slice none 0 0, .int .i64 0, .int .i8 0] 72)) := (Mods.refl _ w0).alloc _
  have hF := Lib.fresh_isBuffer 72 5 w0
  generalize hW : (w0.alloc _ : World) = W at *
  refine (HC.out w0.heap.size w0.heap.size [] W hS (Nat.le_refl _) hS.size hF (by simpa using hl)).mono ?_
  rintro e w1 ⟨rfl, h1⟩
  have hS1 := Wrote.sameG hS (Nat.le_refl _) h1
  go_wp2_with fail
  refine (Tryz.Buffer_String w0.heap.size w0.heap.size _ w1 h1.buf).mono ?_
  rintro e w2 ⟨rfl, k, rfl⟩
  go_wp2_with fail
  go_ret
  exact ⟨rfl, hS1.drewN k⟩
end Go.Proofs.YtdnlfdppjfjncaaGreatDoor

/- A row of inlines as a tree: which blocks it consists of, what it prints. -/
namespace Go.Proofs.YtdnlfdppjfjncaaGreatDoor.G
open Go Go.RowKit Go.Proofs

def delO : List UInt8 := [60, 100, 101, 108, 62]
def delC : List UInt8 := [60, 47, 100, 101, 108, 62]

/-- The inlines of a row. -/
inductive InsAt (w : World) : List Value → List (List UInt8) → Prop
  | nil : InsAt w [] []
  | plain {xb : Nat} {t : ByteArray} {xs : List Value} {os : List (List UInt8)} (hb : Blk w xb #[.string t] 137) (ht : t.size ≤ 1000000) (hr : InsAt w xs os) : InsAt w (.iface 156 (.pointer (some ⟨xb, 0, none⟩)) :: xs) (escN t t.size :: os)
  | esc {xb : Nat} {t : ByteArray} {xs : List Value} {os : List (List UInt8)} (hb : Blk w xb #[.string t] 178) (ht : t.size ≤ 1000000) (hr : InsAt w xs os) : InsAt w (.iface 176 (.pointer (some ⟨xb, 0, none⟩)) :: xs) (escN t t.size :: os)
  | del {rk n TD : Nat} {m v : Value} {ys xs : List Value} {ps os : List (List UInt8)} (hb : Blk w rk #[m, v] TD) (hTD : TD = 222 ∨ TD = 216) (hrow : w.ownsRow 0 132 1 v n ys) (hn0 : 0 < n) (hn6 : n ≤ 1000000) (hi : InsAt w ys ps) (hr : InsAt w xs os) :
      InsAt w (.iface 217 (.pointer (some ⟨rk, 0, none⟩)) :: xs) ((delO ++ ps.flatten ++ delC) :: os)

theorem Calm.not {S : Nat → Prop} {w : World} (h : Calm S w) {b T : Nat} {cs : Array Value} (hb : Blk w b cs T) (h1 : T ≠ 95) (h2 : T ≠ 110) : ¬ S b := fun hs => (h b cs T hb hs).elim h1 h2
theorem Calm.row {S : Nat → Prop} {w w' : World} (h : Calm S w) (hm : Mods S w w') {n : Nat} {v : Value} {xs : List Value} (hn0 : 0 < n) (hr : w.ownsRow 0 132 1 v n xs) : w'.ownsRow 0 132 1 v n xs := by
  obtain ⟨gl, lc, rfl, ⟨cur, hcur⟩, _, _⟩ := ownsRow_form hr hn0
  refine ownsRow_keep hr hm (fun b hb hs => ?_)
  cases hb
  exact h.not hcur (by decide) (by decide) hs

theorem InsAt.keep {S : Nat → Prop} {w w' : World} (hc : Calm S w) (hm : Mods S w w') {xs : List Value} {os : List (List UInt8)} (h : InsAt w xs os) : InsAt w' xs os := by
  induction h with
  | nil => exact .nil
  | plain hb ht _ ih => exact .plain (hb.keep hm (hc.not hb (by decide) (by decide))) ht ih
  | esc hb ht _ ih => exact .esc (hb.keep hm (hc.not hb (by decide) (by decide))) ht ih
  | del hb hTD hrow hn0 hn6 _ _ ih1 ih2 => exact .del (hb.keep hm (hc.not hb (by rcases hTD with h | h <;> rw [h] <;> decide) (by rcases hTD with h | h <;> rw [h] <;> decide))) hTD (hc.row hm hn0 hrow) hn0 hn6 ih1 ih2

theorem InsAt.prints {w : World} {xs : List Value} {os : List (List UInt8)} (h : InsAt w xs os) : RowPrints w xs os := by
  induction h with
  | nil => exact .nil
  | plain hb ht _ ih => exact .cons (Prints.plain hb ht) ih
  | esc hb ht _ ih => exact .cons (Prints.esc hb ht) ih
  | del hb _ hrow hn0 hn6 _ _ ih1 ih2 => exact .cons (Prints.del hb hrow hn0 hn6 ih1) ih2

/-- A list of inlines that prints out. -/
def Row (out : List UInt8) (w : World) (g n cap : Nat) : Prop :=
  0 < n ∧ n ≤ 1000000 ∧ ∃ ys os, w.ownsRow 0 132 1 (.slice (some ⟨g, 0, none⟩) n cap) n ys ∧ InsAt w ys os ∧ os.flatten = out
theorem row_stays (out : List UInt8) : Stays (Row out) := by
  rintro S W W' g n c ⟨h0, h6, ys, os, h1, h2, h3⟩ hc hm
  exact ⟨h0, h6, ys, os, hc.row hm h0 h1, h2.keep hc hm, h3⟩
end Go.Proofs.YtdnlfdppjfjncaaGreatDoor.G

/- inline on a text of pieces of any kind: the walk. -/
namespace Go.Proofs.YtdnlfdppjfjncaaGreatDoor.G
open Go Go.RowKit Go.Proofs

theorem as_no (p : Pc) (h : p.Ok) (X : Nat) (v : Value) (w : World) : (Instr.typeAssert (.iface p.ty v) X 134 true).run Tryz.prog w = .ok (.tuple #[.pointer none, .bool false]) w :=
  as_ptr_no _ 134 139 (by kernel_rfl) (fun _ => by kernel_rfl) X v w h.open_

theorem plan_ne {o : Op} {s : ByteArray} {k e : Nat} {r : List Pc} (h : Plan o s k e r) : e < s.size → r ≠ [] := by
  induction h with
  | fin e => intro h; rw [if_pos h]; simp
  | dull _ _ _ ih => exact ih
  | piece _ _ _ _ _ _ _ _ _ _ _ _ _ _ => intro _; simp

theorem plan_end {o : Op} {s : ByteArray} {e : Nat} {r : List Pc} (h : Plan o s s.size e r) : r = if e < s.size then [.plain (s.extract e s.size)] else [] := by
  generalize hk : s.size = k at h
  cases h with
  | fin e => rfl
  | dull h1 _ _ => omega
  | piece h1 _ _ _ _ _ _ _ _ _ _ _ _ => omega

theorem plan_cases {o : Op} {s : ByteArray} {k e : Nat} {r : List Pc} (h : Plan o s k e r) :
    (∃ hk : k < s.size, Idle o s[k] ∧ Plan o s (k + 1) e r) ∨
    (∃ (hk : k < s.size) (fn : Nat) (pc : Pc) (st en : Nat) (r' : List Pc), Starts o s[k] fn ∧ e ≤ st ∧ st ≤ k ∧ k < en ∧ en ≤ s.size ∧ PieceCall s k fn pc st en ∧ pc.Ok ∧ Plan o s en en r' ∧ r = (if e < st then [.plain (s.extract e st)] else []) ++ pc :: r') ∨ k = s.size := by
  cases h with
  | fin e => exact Or.inr (Or.inr rfl)
  | dull h1 h2 h3 => exact Or.inl ⟨h1, h2, h3⟩
  | piece h1 fn h2 pc st en h3 h4 h5 h6 h7 ho h8 => exact Or.inr (Or.inl ⟨h1, fn, pc, st, en, _, h2, h3, h4, h5, h6, h7, ho, h8, rfl⟩)

theorem Held.again {w0 w w' : World} {bp : Nat} {p : PSt} {s : ByteArray} {e n : Nat} {lv : Value} {xs : List Value} {pcs : List Pc} (h : Held w0 w bp p s e n lv xs pcs) (hm : Same w w') :
    Held w0 (w'.setCell ⟨bp, 9, none⟩ lv) bp p s e n lv xs pcs :=
  (h.same hm).skipped ((Mods.refl (fun k => k = bp) w').setCell (p := ⟨bp, 9, none⟩) (fun _ => rfl) _) (((h.same hm).at_).set 9 _ _ rfl (by decide))

set_option maxRecDepth 100000 in
set_option maxHeartbeats 8000000 in
theorem inline_gen (o : Op) (bp : Nat) (p : PSt) (s : ByteArray) (w : World) (hp : PsAt w bp p) (hs : s.size ≤ 900000) (h0 : 0 < s.size) (all : List Pc) (hg : Plan o s 0 0 all) (hO : Opt w p 3 false) (hOp : OpAt w p o) (hpb : p.parser ≠ bp)
    (hT : Calls Tryz.prog 74 #[.string s] w fun e w' => e = .returned (.string s) ∧ w = w')
    (P1 P2 : World → Nat → Nat → Nat → Prop) (hP1 : Stays P1) (hP2 : Stays P2)
    (hEm : ∀ W g n cap xs c, Held w W bp { p with corner := c } s s.size n (.slice (some ⟨g, 0, none⟩) n cap) xs all → 0 < n → n ≤ s.size + 1 →
      Calls Tryz.prog 91 #[.pointer (some ⟨bp, 0, none⟩), .slice (some ⟨g, 0, none⟩) 0 cap, .slice (some ⟨g, 0, none⟩) n cap] W fun e W' => ∃ g2 n2 cap2, e = .returned (.slice (some ⟨g2, 0, none⟩) n2 cap2) ∧ Mid w W' bp p s c ∧ P1 W' g2 n2 cap2)
    (hMe : ∀ W g n cap c, Mid w W bp p s c → P1 W g n cap →
      Calls Tryz.prog 92 #[.pointer (some ⟨bp, 0, none⟩), .slice (some ⟨g, 0, none⟩) n cap] W fun e W' => ∃ g2 n2 cap2, e = .returned (.slice (some ⟨g2, 0, none⟩) n2 cap2) ∧ Mid w W' bp p s c ∧ P2 W' g2 n2 cap2) :
    Calls Tryz.prog 66 #[.pointer (some ⟨bp, 0, none⟩), .string s] w fun e w' => ∃ g n cap c, e = .returned (.slice (some ⟨g, 0, none⟩) n cap) ∧ Mid w w' bp p s c ∧ P2 w' g n cap := by
  have hl := hp.lt
  have f7 := hp.fr 7
  have f8 := hp.fr 8
  have f9 := hp.fr 9
  have k7 := hp.s
  have k8 := hp.emitted
  have k9 := hp.list
  go_enter Tryz.func66, Tryz.ntmps66
  go_wp2_with fail
  refine hT.mono ?_
  rintro e w' ⟨rfl, rfl⟩
  go_wp2_with fail
  generalize hW : (World.setCell _ _ _ : World) = W
  have hne := plan_ne hg h0
  have hG : Going o w W bp p s all 0 := by
    subst hW
    refine ⟨Nat.zero_le _, p.corner, 0, 0, .slice none 0 0, [], [], all, Nat.le_refl _, Nat.le_refl _, ⟨?_, ?_, ⟨rfl, Or.inl ⟨rfl, rfl⟩⟩, trivial, (fun _ h => by cases h), (fun _ h => by cases h)⟩, hg, rfl⟩
    · exact (((Mods.refl (fun b => b = bp) w).setCell (p := ⟨bp, 7, none⟩) (fun _ => rfl) _).setCell (p := ⟨bp, 9, none⟩) (fun _ => rfl) _).setCell (p := ⟨bp, 8, none⟩) (fun _ => rfl) _
    · exact ((hp.set 7 _ { p with s := s } rfl (by decide)).set 9 _ { p with s := s, list := .slice none 0 0 } rfl (by decide)).set 8 _ _ rfl (by decide)
  clear hW hT hg f7 f8 f9 k7 k8 k9 hl
  refine wp_loop_ghost_k (fun m a wr => ∃ (k : Nat) (v : Nat → Value), (m = s.size - k ∧ Going o w wr bp p s all k) ∧
    a = ⟨#[.pointer (some ⟨bp, 0, none⟩), .string s, undef, undef, .slice none 0 0, .slice none 0 0, .int .i64 0, .bool false, .int .i64 k, v 9, v 10, v 11, v 12, v 13, v 14, v 15, v 16, v 17, v 18, v 19, v 20, .string s, .string s, .pointer (some ⟨bp, 0, none⟩), .string s, .pointer (some ⟨bp, 0, none⟩), .pointer (some ⟨bp, 7, none⟩), .pointer (some ⟨bp, 0, none⟩), .pointer (some ⟨bp, 0, none⟩), .pointer (some ⟨bp, 9, none⟩), .pointer (some ⟨bp, 0, none⟩), .pointer (some ⟨bp, 0, none⟩), .pointer (some ⟨bp, 8, none⟩), v 33, v 34, v 35, v 36, v 37, v 38, v 39, v 40, v 41, v 42, v 43, v 44, v 45, v 46, v 47, v 48, v 49, v 50, v 51, v 52, v 53, v 54, v 55, v 56, v 57, v 58, v 59, v 60, v 61, v 62, v 63, v 64, v 65, v 66, v 67, v 68, v 69, v 70, v 71, v 72, v 73, v 74, v 75, v 76, v 77, v 78, v 79, v 80, v 81, v 82, v 83, v 84, v 85, v 86, v 87, v 88, v 89, v 90, v 91, v 92, v 93, v 94, v 95, v 96, v 97, v 98, v 99, v 100, v 101, v 102, v 103, v 104, v 105, v 106, v 107, v 108, v 109, v 110, v 111, v 112, v 113, v 114, v 115, v 116, v 117, v 118, v 119, v 120, v 121, v 122, v 123, v 124, v 125, v 126, v 127, v 128, v 129, v 130, v 131, v 132, v 133, v 134, v 135, v 136, v 137, v 138, v 139, v 140, v 141, v 142, v 143, v 144, v 145, v 146, v 147, v 148, v 149, v 150, v 151, v 152, v 153, v 154, v 155, v 156, v 157, v 158, v 159, v 160, v 161, v 162, v 163, v 164, v 165, v 166, v 167, v 168, v 169, v 170, v 171, v 172, v 173, v 174, v 175, v 176, v 177, v 178, v 179, v 180, v 181, v 182, v 183, v 184, v 185, v 186, v 187, v 188, v 189, v 190, v 191, v 192, v 193, v 194, v 195, v 196, v 197, v 198, v 199, v 200, v 201, v 202, v 203, v 204, v 205, v 206, v 207, v 208, v 209, v 210, v 211, v 212, v 213, v 214, v 215, v 216, v 217, v 218, v 219, v 220, v 221, v 222, v 223, v 224, v 225, v 226, v 227, v 228, v 229, v 230, v 231, v 232, v 233, v 234, v 235, v 236, v 237, v 238, v 239, v 240, v 241, v 242, v 243, v 244, v 245, v 246, v 247, v 248, v 249, v 250, v 251, v 252, v 253, v 254, v 255, v 256, v 257, v 258, v 259, v 260, v 261, v 262, v 263, v 264, v 265, v 266, v 267, v 268, v 269, v 270, v 271, v 272, v 273, v 274, v 275, v 276, v 277, v 278, v 279, v 280, v 281, v 282, v 283, v 284, v 285, v 286, v 287, v 288, v 289, v 290, v 291, v 292, v 293, v 294, v 295, v 296, v 297, v 298, v 299, v 300, v 301, v 302, v 303, v 304, v 305, v 306, v 307, v 308, v 309, v 310, v 311, v 312, v 313, v 314, v 315, v 316, v 317, v 318, v 319, v 320, v 321, v 322, v 323, v 324, v 325, v 326, v 327, v 328, v 329, v 330, v 331, v 332, v 333, v 334], []⟩) s.size ⟨0, fun _ => undef, ⟨rfl, hG⟩, rfl⟩ ?_
  · intro gk a wr hinv
    obtain ⟨k, v, ⟨rfl, hG⟩, rfl⟩ := hinv
    intro J K hJ hK
    have HNE := Lib.hid hne
    clear hne
    obtain ⟨hle, c0, e, n, lv, xs, pcs, r, he, hn, hh, hpl, hsc⟩ := hG
    have hOr := hOp.keep hh.mods hpb
    have o1 := hOr.s.cell
    have o9 := hOr.q.cell
    have k0 : wr.cell? ⟨bp, 0, none⟩ = some (.pointer (some ⟨p.parser, 0, none⟩)) := hh.at_.parser
    clear hOr
    rcases plan_cases hpl with ⟨hk, hd, hp2⟩ | ⟨hk, fn, pc, st, en, r', hb, h1, h2, h3, h4, hcall, hok, hp2, hr⟩ | hk
    · have w1 : (k : Int) < s.size := by omega
      have w2 : (0 : Int) ≤ k := by omega
      have w3 : IntKind.i64.wrap ((k : Int) + 1) = (k : Int) + 1 := IntWalk.i64_in _ (by omega)
      have hG2 : Going o w wr bp p s all (k + 1) := ⟨hk, c0, e, n, lv, xs, pcs, r, by omega, hn, hh, hp2, hsc⟩
      have HG2 := Lib.hid hG2
      have hE := eql_nil_nil
      rcases hd with hd | ⟨hd, ho⟩ | ⟨hd, ho⟩ | ⟨hd, ho⟩
      · have d1 : ((s[k].toNat : Int) == 92) = false := dull_ne hd 92 rfl
        have d2 : ((s[k].toNat : Int) == 96) = false := dull_ne hd 96 rfl
        have d3 : ((s[k].toNat : Int) == 60) = false := dull_ne hd 60 rfl
        have d4 : ((s[k].toNat : Int) == 91) = false := dull_ne hd 91 rfl
        have d5 : ((s[k].toNat : Int) == 33) = false := dull_ne hd 33 rfl
        have d6 : ((s[k].toNat : Int) == 95) = false := dull_ne hd 95 rfl
        have d7 : ((s[k].toNat : Int) == 42) = false := dull_ne hd 42 rfl
        have d8 : ((s[k].toNat : Int) == 46) = false := dull_ne hd 46 rfl
        have d9 : ((s[k].toNat : Int) == 45) = false := dull_ne hd 45 rfl
        have d10 : ((s[k].toNat : Int) == 34) = false := dull_ne hd 34 rfl
        have d11 : ((s[k].toNat : Int) == 39) = false := dull_ne hd 39 rfl
        have d12 : ((s[k].toNat : Int) == 126) = false := dull_ne hd 126 rfl
        have d13 : ((s[k].toNat : Int) == 10) = false := dull_ne hd 10 rfl
        have d14 : ((s[k].toNat : Int) == 38) = false := dull_ne hd 38 rfl
        have d15 : ((s[k].toNat : Int) == 58) = false := dull_ne hd 58 rfl
        clear hG2 hd hp2 hpl hsc hh
        go_wp2_with fail
        all_goals
          exact Handed.intro (s.size - (k + 1)) (by omega) (hJ _ _ _ ⟨k + 1, (fun d => cond (Nat.ble 9 d && Nat.ble d 15) (List.getD [_, _, _, _, _, _, _] (d - 9) undef) (cond (Nat.ble 33 d && Nat.ble d 165) (cond (Nat.ble d 96) (cond (Nat.ble d 64) (cond (Nat.ble d 48) (List.getD [_, _, _, _, _, _, _, _, _, _, _, _, _, _, _, _] (d - 33) undef) (List.getD [_, _, _, _, _, _, _, _, _, _, _, _, _, _, _, _] (d - 49) undef)) (cond (Nat.ble d 80) (List.getD [_, _, _, _, _, _, _, _, _, _, _, _, _, _, _, _] (d - 65) undef) (List.getD [_, _, _, _, _, _, _, _, _, _, _, _, _, _, _, _] (d - 81) undef))) (cond (Nat.ble d 128) (cond (Nat.ble d 112) (List.getD [_, _, _, _, _, _, _, _, _, _, _, _, _, _, _, _] (d - 97) undef) (List.getD [_, _, _, _, _, _, _, _, _, _, _, _, _, _, _, _] (d - 113) undef)) (cond (Nat.ble d 144) (List.getD [_, _, _, _, _, _, _, _, _, _, _, _, _, _, _, _] (d - 129) undef) (cond (Nat.ble d 160) (List.getD [_, _, _, _, _, _, _, _, _, _, _, _, _, _, _, _] (d - 145) undef) (List.getD [_, _, _, _, _] (d - 161) undef))))) (cond (Nat.ble 293 d && Nat.ble d 294) (List.getD [_, _] (d - 293) undef) (v d)))), ⟨rfl, HG2.out⟩, rfl⟩)
      · have d1 : ((s[k].toNat : Int) == 92) = false := by rw [hd]; rfl
        have d2 : ((s[k].toNat : Int) == 96) = false := by rw [hd]; rfl
        have d3 : ((s[k].toNat : Int) == 60) = false := by rw [hd]; rfl
        have d4 : ((s[k].toNat : Int) == 91) = false := by rw [hd]; rfl
        have d5 : ((s[k].toNat : Int) == 33) = false := by rw [hd]; rfl
        have d6 : ((s[k].toNat : Int) == 95) = false := by rw [hd]; rfl
        have d7 : ((s[k].toNat : Int) == 42) = false := by rw [hd]; rfl
        have d8 : ((s[k].toNat : Int) == 46) = false := by rw [hd]; rfl
        have d9 : ((s[k].toNat : Int) == 45) = false := by rw [hd]; rfl
        have d10 : ((s[k].toNat : Int) == 34) = false := by rw [hd]; rfl
        have d11 : ((s[k].toNat : Int) == 39) = false := by rw [hd]; rfl
        have d12 : ((s[k].toNat : Int) == 126) = true := by rw [hd]; rfl
        rw [ho] at o1
        clear hG2 hd hp2 hpl hsc hh
        go_wp2_with fail
        all_goals
          exact Handed.intro (s.size - (k + 1)) (by omega) (hJ _ _ _ ⟨k + 1, (fun d => cond (Nat.ble 9 d && Nat.ble d 15) (List.getD [_, _, _, _, _, _, _] (d - 9) undef) (cond (Nat.ble 33 d && Nat.ble d 165) (cond (Nat.ble d 96) (cond (Nat.ble d 64) (cond (Nat.ble d 48) (List.getD [_, _, _, _, _, _, _, _, _, _, _, _, _, _, _, _] (d - 33) undef) (List.getD [_, _, _, _, _, _, _, _, _, _, _, _, _, _, _, _] (d - 49) undef)) (cond (Nat.ble d 80) (List.getD [_, _, _, _, _, _, _, _, _, _, _, _, _, _, _, _] (d - 65) undef) (List.getD [_, _, _, _, _, _, _, _, _, _, _, _, _, _, _, _] (d - 81) undef))) (cond (Nat.ble d 128) (cond (Nat.ble d 112) (List.getD [_, _, _, _, _, _, _, _, _, _, _, _, _, _, _, _] (d - 97) undef) (List.getD [_, _, _, _, _, _, _, _, _, _, _, _, _, _, _, _] (d - 113) undef)) (cond (Nat.ble d 144) (List.getD [_, _, _, _, _, _, _, _, _, _, _, _, _, _, _, _] (d - 129) undef) (cond (Nat.ble d 160) (List.getD [_, _, _, _, _, _, _, _, _, _, _, _, _, _, _, _] (d - 145) undef) (List.getD [_, _, _, _, _] (d - 161) undef))))) (cond (Nat.ble 293 d && Nat.ble d 294) (List.getD [_, _] (d - 293) undef) (v d)))), ⟨rfl, HG2.out⟩, rfl⟩)
      · have d1 : ((s[k].toNat : Int) == 92) = false := by rw [hd]; rfl
        have d2 : ((s[k].toNat : Int) == 96) = false := by rw [hd]; rfl
        have d3 : ((s[k].toNat : Int) == 60) = false := by rw [hd]; rfl
        have d4 : ((s[k].toNat : Int) == 91) = false := by rw [hd]; rfl
        have d5 : ((s[k].toNat : Int) == 33) = false := by rw [hd]; rfl
        have d6 : ((s[k].toNat : Int) == 95) = false := by rw [hd]; rfl
        have d7 : ((s[k].toNat : Int) == 42) = false := by rw [hd]; rfl
        have d8 : ((s[k].toNat : Int) == 46) = false := by rw [hd]; rfl
        have d9 : ((s[k].toNat : Int) == 45) = false := by rw [hd]; rfl
        have d10 : ((s[k].toNat : Int) == 34) = true := by rw [hd]; rfl
        rw [ho] at o9
        clear hG2 hd hp2 hpl hsc hh
        go_wp2_with fail
        all_goals
          exact Handed.intro (s.size - (k + 1)) (by omega) (hJ _ _ _ ⟨k + 1, (fun d => cond (Nat.ble 9 d && Nat.ble d 15) (List.getD [_, _, _, _, _, _, _] (d - 9) undef) (cond (Nat.ble 33 d && Nat.ble d 165) (cond (Nat.ble d 96) (cond (Nat.ble d 64) (cond (Nat.ble d 48) (List.getD [_, _, _, _, _, _, _, _, _, _, _, _, _, _, _, _] (d - 33) undef) (List.getD [_, _, _, _, _, _, _, _, _, _, _, _, _, _, _, _] (d - 49) undef)) (cond (Nat.ble d 80) (List.getD [_, _, _, _, _, _, _, _, _, _, _, _, _, _, _, _] (d - 65) undef) (List.getD [_, _, _, _, _, _, _, _, _, _, _, _, _, _, _, _] (d - 81) undef))) (cond (Nat.ble d 128) (cond (Nat.ble d 112) (List.getD [_, _, _, _, _, _, _, _, _, _, _, _, _, _, _, _] (d - 97) undef) (List.getD [_, _, _, _, _, _, _, _, _, _, _, _, _, _, _, _] (d - 113) undef)) (cond (Nat.ble d 144) (List.getD [_, _, _, _, _, _, _, _, _, _, _, _, _, _, _, _] (d - 129) undef) (cond (Nat.ble d 160) (List.getD [_, _, _, _, _, _, _, _, _, _, _, _, _, _, _, _] (d - 145) undef) (List.getD [_, _, _, _, _] (d - 161) undef))))) (cond (Nat.ble 293 d && Nat.ble d 294) (List.getD [_, _] (d - 293) undef) (v d)))), ⟨rfl, HG2.out⟩, rfl⟩)
      · have d1 : ((s[k].toNat : Int) == 92) = false := by rw [hd]; rfl
        have d2 : ((s[k].toNat : Int) == 96) = false := by rw [hd]; rfl
        have d3 : ((s[k].toNat : Int) == 60) = false := by rw [hd]; rfl
        have d4 : ((s[k].toNat : Int) == 91) = false := by rw [hd]; rfl
        have d5 : ((s[k].toNat : Int) == 33) = false := by rw [hd]; rfl
        have d6 : ((s[k].toNat : Int) == 95) = false := by rw [hd]; rfl
        have d7 : ((s[k].toNat : Int) == 42) = false := by rw [hd]; rfl
        have d8 : ((s[k].toNat : Int) == 46) = false := by rw [hd]; rfl
        have d9 : ((s[k].toNat : Int) == 45) = false := by rw [hd]; rfl
        have d10 : ((s[k].toNat : Int) == 34) = false := by rw [hd]; rfl
        have d11 : ((s[k].toNat : Int) == 39) = true := by rw [hd]; rfl
        rw [ho] at o9
        clear hG2 hd hp2 hpl hsc hh
        go_wp2_with fail
        all_goals
          exact Handed.intro (s.size - (k + 1)) (by omega) (hJ _ _ _ ⟨k + 1, (fun d => cond (Nat.ble 9 d && Nat.ble d 15) (List.getD [_, _, _, _, _, _, _] (d - 9) undef) (cond (Nat.ble 33 d && Nat.ble d 165) (cond (Nat.ble d 96) (cond (Nat.ble d 64) (cond (Nat.ble d 48) (List.getD [_, _, _, _, _, _, _, _, _, _, _, _, _, _, _, _] (d - 33) undef) (List.getD [_, _, _, _, _, _, _, _, _, _, _, _, _, _, _, _] (d - 49) undef)) (cond (Nat.ble d 80) (List.getD [_, _, _, _, _, _, _, _, _, _, _, _, _, _, _, _] (d - 65) undef) (List.getD [_, _, _, _, _, _, _, _, _, _, _, _, _, _, _, _] (d - 81) undef))) (cond (Nat.ble d 128) (cond (Nat.ble d 112) (List.getD [_, _, _, _, _, _, _, _, _, _, _, _, _, _, _, _] (d - 97) undef) (List.getD [_, _, _, _, _, _, _, _, _, _, _, _, _, _, _, _] (d - 113) undef)) (cond (Nat.ble d 144) (List.getD [_, _, _, _, _, _, _, _, _, _, _, _, _, _, _, _] (d - 129) undef) (cond (Nat.ble d 160) (List.getD [_, _, _, _, _, _, _, _, _, _, _, _, _, _, _, _] (d - 145) undef) (List.getD [_, _, _, _, _] (d - 161) undef))))) (cond (Nat.ble 293 d && Nat.ble d 294) (List.getD [_, _] (d - 293) undef) (v d)))), ⟨rfl, HG2.out⟩, rfl⟩)
    · have w1 : (k : Int) < s.size := by omega
      have w2 : (0 : Int) ≤ k := by omega
      have HSC := Lib.hid hsc
      have HR := Lib.hid hr
      have HP2 := Lib.hid hp2
      have HCALL := Lib.hid hcall
      clear hsc hr hp2 hcall hpl
      have hE := eql_func_nil
      have hAO := as_no pc hok
      have HOK := Lib.hid hok
      clear hok
      rcases hb with ⟨hc, rfl⟩ | ⟨hc, rfl⟩ | ⟨hc, rfl⟩ | ⟨hc, rfl, ho⟩ | ⟨hc, rfl, ho⟩ | ⟨hc, rfl, ho⟩
      · have d1 : ((s[k].toNat : Int) == 92) = true := by rw [hc]; rfl
        clear hc
        go_wp2_with fail
        refine (HCALL.out bp _ wr hh.at_).mono ?_
        rintro e' wA ⟨b, c1, rfl, hmA, hpA, hbn, hbA⟩
        have hbn2 := Nat.le_trans hh.mods.size hbn
        have hhA : Held w wA bp { p with corner := c1 } s e n lv xs pcs := hh.cornered hmA hpA
        clear hmA hpA hh
        go_wp2_with fail
        refine (emit_held hhA st h1 (by omega) (by omega) (by omega)).mono ?_
        rintro e' wB ⟨rfl, n', lv', xs', hn', hmB, hB⟩
        have hbB := hbA.keep hmB (pcs_safe hhA.at_ hhA.row b _ _ hbA HOK.out.bty_is)
        have hnn : n' ≤ st ∨ n' = n := by
          have e1 := hB.pcs.length
          have e2 := hB.row.1
          have e3 := hhA.pcs.length
          have e4 := hhA.row.1
          rw [List.length_append] at e1
          by_cases hlt : e < st
          · left; omega
          · rw [if_neg hlt] at e1
            right
            simp at e1
            omega
        have k9 := hB.at_.list
        have hl9 := hB.at_.lt
        clear hmB hbA hhA
        go_wp2_with (at_builtin; refine ap_inl rfl (.tmp 147) (.tmp 149) rfl lv' n' xs' rfl (hB.row.alloc _) wB.heap.size 1 _ (.pointer (some ⟨b, 0, none⟩)) rfl ((Blk.newAt _ _ rfl).cell 0) (by omega) ?_)
        intro g cap wC hown1 hgrow hloc
        obtain ⟨k9', f9', hl9'⟩ := hB.push_at hgrow
        have hP := hB.push hown1 hgrow hloc HOK.out hbn2 hbB
        clear hgrow hloc hown1 k9 hl9
        go_wp2_with fail
        refine (skip_any bp _ _ _ hP.at_).mono ?_
        rintro e' wD ⟨rfl, hmD, hpD⟩
        go_wp2_with fail
        exact Handed.intro (s.size - en) (by omega) (hJ _ _ _ ⟨en, (fun d => cond (Nat.ble 9 d && Nat.ble d 15) (List.getD [_, _, _, _, _, _, _] (d - 9) undef) (cond (Nat.ble 33 d && Nat.ble d 165) (cond (Nat.ble d 96) (cond (Nat.ble d 64) (cond (Nat.ble d 48) (List.getD [_, _, _, _, _, _, _, _, _, _, _, _, _, _, _, _] (d - 33) undef) (List.getD [_, _, _, _, _, _, _, _, _, _, _, _, _, _, _, _] (d - 49) undef)) (cond (Nat.ble d 80) (List.getD [_, _, _, _, _, _, _, _, _, _, _, _, _, _, _, _] (d - 65) undef) (List.getD [_, _, _, _, _, _, _, _, _, _, _, _, _, _, _, _] (d - 81) undef))) (cond (Nat.ble d 128) (cond (Nat.ble d 112) (List.getD [_, _, _, _, _, _, _, _, _, _, _, _, _, _, _, _] (d - 97) undef) (List.getD [_, _, _, _, _, _, _, _, _, _, _, _, _, _, _, _] (d - 113) undef)) (cond (Nat.ble d 144) (List.getD [_, _, _, _, _, _, _, _, _, _, _, _, _, _, _, _] (d - 129) undef) (cond (Nat.ble d 160) (List.getD [_, _, _, _, _, _, _, _, _, _, _, _, _, _, _, _] (d - 145) undef) (List.getD [_, _, _, _, _] (d - 161) undef))))) (cond (Nat.ble 293 d && Nat.ble d 294) (List.getD [_, _] (d - 293) undef) (v d)))), ⟨rfl, h4, c1, en, n' + 1, _, _, _, r', Nat.le_refl _, by omega, hP.skipped hmD hpD, HP2.out, by rw [← HSC.out, HR.out]; simp⟩, rfl⟩)
      · have d1 : ((s[k].toNat : Int) == 92) = false := by rw [hc]; rfl
        have d2 : ((s[k].toNat : Int) == 96) = false := by rw [hc]; rfl
        have d3 : ((s[k].toNat : Int) == 60) = true := by rw [hc]; rfl
        clear hc
        go_wp2_with fail
        refine (HCALL.out bp _ wr hh.at_).mono ?_
        rintro e' wA ⟨b, c1, rfl, hmA, hpA, hbn, hbA⟩
        have hbn2 := Nat.le_trans hh.mods.size hbn
        have hhA : Held w wA bp { p with corner := c1 } s e n lv xs pcs := hh.cornered hmA hpA
        clear hmA hpA hh
        go_wp2_with fail
        refine (emit_held hhA st h1 (by omega) (by omega) (by omega)).mono ?_
        rintro e' wB ⟨rfl, n', lv', xs', hn', hmB, hB⟩
        have hbB := hbA.keep hmB (pcs_safe hhA.at_ hhA.row b _ _ hbA HOK.out.bty_is)
        have hnn : n' ≤ st ∨ n' = n := by
          have e1 := hB.pcs.length
          have e2 := hB.row.1
          have e3 := hhA.pcs.length
          have e4 := hhA.row.1
          rw [List.length_append] at e1
          by_cases hlt : e < st
          · left; omega
          · rw [if_neg hlt] at e1
            right
            simp at e1
            omega
        have k9 := hB.at_.list
        have hl9 := hB.at_.lt
        clear hmB hbA hhA
        go_wp2_with (at_builtin; refine ap_inl rfl (.tmp 147) (.tmp 149) rfl lv' n' xs' rfl (hB.row.alloc _) wB.heap.size 1 _ (.pointer (some ⟨b, 0, none⟩)) rfl ((Blk.newAt _ _ rfl).cell 0) (by omega) ?_)
        intro g cap wC hown1 hgrow hloc
        obtain ⟨k9', f9', hl9'⟩ := hB.push_at hgrow
        have hP := hB.push hown1 hgrow hloc HOK.out hbn2 hbB
        clear hgrow hloc hown1 k9 hl9
        go_wp2_with fail
        refine (skip_any bp _ _ _ hP.at_).mono ?_
        rintro e' wD ⟨rfl, hmD, hpD⟩
        go_wp2_with fail
        exact Handed.intro (s.size - en) (by omega) (hJ _ _ _ ⟨en, (fun d => cond (Nat.ble 9 d && Nat.ble d 15) (List.getD [_, _, _, _, _, _, _] (d - 9) undef) (cond (Nat.ble 33 d && Nat.ble d 165) (cond (Nat.ble d 96) (cond (Nat.ble d 64) (cond (Nat.ble d 48) (List.getD [_, _, _, _, _, _, _, _, _, _, _, _, _, _, _, _] (d - 33) undef) (List.getD [_, _, _, _, _, _, _, _, _, _, _, _, _, _, _, _] (d - 49) undef)) (cond (Nat.ble d 80) (List.getD [_, _, _, _, _, _, _, _, _, _, _, _, _, _, _, _] (d - 65) undef) (List.getD [_, _, _, _, _, _, _, _, _, _, _, _, _, _, _, _] (d - 81) undef))) (cond (Nat.ble d 128) (cond (Nat.ble d 112) (List.getD [_, _, _, _, _, _, _, _, _, _, _, _, _, _, _, _] (d - 97) undef) (List.getD [_, _, _, _, _, _, _, _, _, _, _, _, _, _, _, _] (d - 113) undef)) (cond (Nat.ble d 144) (List.getD [_, _, _, _, _, _, _, _, _, _, _, _, _, _, _, _] (d - 129) undef) (cond (Nat.ble d 160) (List.getD [_, _, _, _, _, _, _, _, _, _, _, _, _, _, _, _] (d - 145) undef) (List.getD [_, _, _, _, _] (d - 161) undef))))) (cond (Nat.ble 293 d && Nat.ble d 294) (List.getD [_, _] (d - 293) undef) (v d)))), ⟨rfl, h4, c1, en, n' + 1, _, _, _, r', Nat.le_refl _, by omega, hP.skipped hmD hpD, HP2.out, by rw [← HSC.out, HR.out]; simp⟩, rfl⟩)
      · have d1 : ((s[k].toNat : Int) == 92) = false := by rw [hc]; rfl
        have d2 : ((s[k].toNat : Int) == 96) = false := by rw [hc]; rfl
        have d3 : ((s[k].toNat : Int) == 60) = false := by rw [hc]; rfl
        have d4 : ((s[k].toNat : Int) == 91) = false := by rw [hc]; rfl
        have d5 : ((s[k].toNat : Int) == 33) = false := by rw [hc]; rfl
        have d6 : ((s[k].toNat : Int) == 95) = false := by rw [hc]; rfl
        have d7 : ((s[k].toNat : Int) == 42) = false := by rw [hc]; rfl
        have d8 : ((s[k].toNat : Int) == 46) = false := by rw [hc]; rfl
        have d9 : ((s[k].toNat : Int) == 45) = false := by rw [hc]; rfl
        have d10 : ((s[k].toNat : Int) == 34) = false := by rw [hc]; rfl
        have d11 : ((s[k].toNat : Int) == 39) = false := by rw [hc]; rfl
        have d12 : ((s[k].toNat : Int) == 126) = false := by rw [hc]; rfl
        have d13 : ((s[k].toNat : Int) == 10) = true := by rw [hc]; rfl
        clear hc
        go_wp2_with fail
        refine (HCALL.out bp _ wr hh.at_).mono ?_
        rintro e' wA ⟨b, c1, rfl, hmA, hpA, hbn, hbA⟩
        have hbn2 := Nat.le_trans hh.mods.size hbn
        have hhA : Held w wA bp { p with corner := c1 } s e n lv xs pcs := hh.cornered hmA hpA
        clear hmA hpA hh
        go_wp2_with fail
        refine (emit_held hhA st h1 (by omega) (by omega) (by omega)).mono ?_
        rintro e' wB ⟨rfl, n', lv', xs', hn', hmB, hB⟩
        have hbB := hbA.keep hmB (pcs_safe hhA.at_ hhA.row b _ _ hbA HOK.out.bty_is)
        have hnn : n' ≤ st ∨ n' = n := by
          have e1 := hB.pcs.length
          have e2 := hB.row.1
          have e3 := hhA.pcs.length
          have e4 := hhA.row.1
          rw [List.length_append] at e1
          by_cases hlt : e < st
          · left; omega
          · rw [if_neg hlt] at e1
            right
            simp at e1
            omega
        have k9 := hB.at_.list
        have hl9 := hB.at_.lt
        clear hmB hbA hhA
        go_wp2_with (at_builtin; refine ap_inl rfl (.tmp 147) (.tmp 149) rfl lv' n' xs' rfl (hB.row.alloc _) wB.heap.size 1 _ (.pointer (some ⟨b, 0, none⟩)) rfl ((Blk.newAt _ _ rfl).cell 0) (by omega) ?_)
        intro g cap wC hown1 hgrow hloc
        obtain ⟨k9', f9', hl9'⟩ := hB.push_at hgrow
        have hP := hB.push hown1 hgrow hloc HOK.out hbn2 hbB
        clear hgrow hloc hown1 k9 hl9
        go_wp2_with fail
        refine (skip_any bp _ _ _ hP.at_).mono ?_
        rintro e' wD ⟨rfl, hmD, hpD⟩
        go_wp2_with fail
        exact Handed.intro (s.size - en) (by omega) (hJ _ _ _ ⟨en, (fun d => cond (Nat.ble 9 d && Nat.ble d 15) (List.getD [_, _, _, _, _, _, _] (d - 9) undef) (cond (Nat.ble 33 d && Nat.ble d 165) (cond (Nat.ble d 96) (cond (Nat.ble d 64) (cond (Nat.ble d 48) (List.getD [_, _, _, _, _, _, _, _, _, _, _, _, _, _, _, _] (d - 33) undef) (List.getD [_, _, _, _, _, _, _, _, _, _, _, _, _, _, _, _] (d - 49) undef)) (cond (Nat.ble d 80) (List.getD [_, _, _, _, _, _, _, _, _, _, _, _, _, _, _, _] (d - 65) undef) (List.getD [_, _, _, _, _, _, _, _, _, _, _, _, _, _, _, _] (d - 81) undef))) (cond (Nat.ble d 128) (cond (Nat.ble d 112) (List.getD [_, _, _, _, _, _, _, _, _, _, _, _, _, _, _, _] (d - 97) undef) (List.getD [_, _, _, _, _, _, _, _, _, _, _, _, _, _, _, _] (d - 113) undef)) (cond (Nat.ble d 144) (List.getD [_, _, _, _, _, _, _, _, _, _, _, _, _, _, _, _] (d - 129) undef) (cond (Nat.ble d 160) (List.getD [_, _, _, _, _, _, _, _, _, _, _, _, _, _, _, _] (d - 145) undef) (List.getD [_, _, _, _, _] (d - 161) undef))))) (cond (Nat.ble 293 d && Nat.ble d 294) (List.getD [_, _] (d - 293) undef) (v d)))), ⟨rfl, h4, c1, en, n' + 1, _, _, _, r', Nat.le_refl _, by omega, hP.skipped hmD hpD, HP2.out, by rw [← HSC.out, HR.out]; simp⟩, rfl⟩)
      · have d1 : ((s[k].toNat : Int) == 92) = false := by rw [hc]; rfl
        have d2 : ((s[k].toNat : Int) == 96) = false := by rw [hc]; rfl
        have d3 : ((s[k].toNat : Int) == 60) = false := by rw [hc]; rfl
        have d4 : ((s[k].toNat : Int) == 91) = false := by rw [hc]; rfl
        have d5 : ((s[k].toNat : Int) == 33) = false := by rw [hc]; rfl
        have d6 : ((s[k].toNat : Int) == 95) = false := by rw [hc]; rfl
        have d7 : ((s[k].toNat : Int) == 42) = false := by rw [hc]; rfl
        have d8 : ((s[k].toNat : Int) == 46) = false := by rw [hc]; rfl
        have d9 : ((s[k].toNat : Int) == 45) = false := by rw [hc]; rfl
        have d10 : ((s[k].toNat : Int) == 34) = false := by rw [hc]; rfl
        have d11 : ((s[k].toNat : Int) == 39) = false := by rw [hc]; rfl
        have d12 : ((s[k].toNat : Int) == 126) = true := by rw [hc]; rfl
        rw [ho] at o1
        clear hc
        go_wp2_with fail
        refine (HCALL.out bp _ wr hh.at_).mono ?_
        rintro e' wA ⟨b, c1, rfl, hmA, hpA, hbn, hbA⟩
        have hbn2 := Nat.le_trans hh.mods.size hbn
        have hhA : Held w wA bp { p with corner := c1 } s e n lv xs pcs := hh.cornered hmA hpA
        clear hmA hpA hh
        go_wp2_with fail
        refine (emit_held hhA st h1 (by omega) (by omega) (by omega)).mono ?_
        rintro e' wB ⟨rfl, n', lv', xs', hn', hmB, hB⟩
        have hbB := hbA.keep hmB (pcs_safe hhA.at_ hhA.row b _ _ hbA HOK.out.bty_is)
        have hnn : n' ≤ st ∨ n' = n := by
          have e1 := hB.pcs.length
          have e2 := hB.row.1
          have e3 := hhA.pcs.length
          have e4 := hhA.row.1
          rw [List.length_append] at e1
          by_cases hlt : e < st
          · left; omega
          · rw [if_neg hlt] at e1
            right
            simp at e1
            omega
        have k9 := hB.at_.list
        have hl9 := hB.at_.lt
        clear hmB hbA hhA
        go_wp2_with (at_builtin; refine ap_inl rfl (.tmp 147) (.tmp 149) rfl lv' n' xs' rfl (hB.row.alloc _) wB.heap.size 1 _ (.pointer (some ⟨b, 0, none⟩)) rfl ((Blk.newAt _ _ rfl).cell 0) (by omega) ?_)
        intro g cap wC hown1 hgrow hloc
        obtain ⟨k9', f9', hl9'⟩ := hB.push_at hgrow
        have hP := hB.push hown1 hgrow hloc HOK.out hbn2 hbB
        clear hgrow hloc hown1 k9 hl9
        go_wp2_with fail
        refine (skip_any bp _ _ _ hP.at_).mono ?_
        rintro e' wD ⟨rfl, hmD, hpD⟩
        go_wp2_with fail
        exact Handed.intro (s.size - en) (by omega) (hJ _ _ _ ⟨en, (fun d => cond (Nat.ble 9 d && Nat.ble d 15) (List.getD [_, _, _, _, _, _, _] (d - 9) undef) (cond (Nat.ble 33 d && Nat.ble d 165) (cond (Nat.ble d 96) (cond (Nat.ble d 64) (cond (Nat.ble d 48) (List.getD [_, _, _, _, _, _, _, _, _, _, _, _, _, _, _, _] (d - 33) undef) (List.getD [_, _, _, _, _, _, _, _, _, _, _, _, _, _, _, _] (d - 49) undef)) (cond (Nat.ble d 80) (List.getD [_, _, _, _, _, _, _, _, _, _, _, _, _, _, _, _] (d - 65) undef) (List.getD [_, _, _, _, _, _, _, _, _, _, _, _, _, _, _, _] (d - 81) undef))) (cond (Nat.ble d 128) (cond (Nat.ble d 112) (List.getD [_, _, _, _, _, _, _, _, _, _, _, _, _, _, _, _] (d - 97) undef) (List.getD [_, _, _, _, _, _, _, _, _, _, _, _, _, _, _, _] (d - 113) undef)) (cond (Nat.ble d 144) (List.getD [_, _, _, _, _, _, _, _, _, _, _, _, _, _, _, _] (d - 129) undef) (cond (Nat.ble d 160) (List.getD [_, _, _, _, _, _, _, _, _, _, _, _, _, _, _, _] (d - 145) undef) (List.getD [_, _, _, _, _] (d - 161) undef))))) (cond (Nat.ble 293 d && Nat.ble d 294) (List.getD [_, _] (d - 293) undef) (v d)))), ⟨rfl, h4, c1, en, n' + 1, _, _, _, r', Nat.le_refl _, by omega, hP.skipped hmD hpD, HP2.out, by rw [← HSC.out, HR.out]; simp⟩, rfl⟩)
      · have d1 : ((s[k].toNat : Int) == 92) = false := by rw [hc]; rfl
        have d2 : ((s[k].toNat : Int) == 96) = false := by rw [hc]; rfl
        have d3 : ((s[k].toNat : Int) == 60) = false := by rw [hc]; rfl
        have d4 : ((s[k].toNat : Int) == 91) = false := by rw [hc]; rfl
        have d5 : ((s[k].toNat : Int) == 33) = false := by rw [hc]; rfl
        have d6 : ((s[k].toNat : Int) == 95) = false := by rw [hc]; rfl
        have d7 : ((s[k].toNat : Int) == 42) = false := by rw [hc]; rfl
        have d8 : ((s[k].toNat : Int) == 46) = false := by rw [hc]; rfl
        have d9 : ((s[k].toNat : Int) == 45) = false := by rw [hc]; rfl
        have d10 : ((s[k].toNat : Int) == 34) = true := by rw [hc]; rfl
        rw [ho] at o9
        clear hc
        go_wp2_with fail
        refine (HCALL.out bp _ wr hh.at_).mono ?_
        rintro e' wA ⟨b, c1, rfl, hmA, hpA, hbn, hbA⟩
        have hbn2 := Nat.le_trans hh.mods.size hbn
        have hhA : Held w wA bp { p with corner := c1 } s e n lv xs pcs := hh.cornered hmA hpA
        clear hmA hpA hh
        go_wp2_with fail
        refine (emit_held hhA st h1 (by omega) (by omega) (by omega)).mono ?_
        rintro e' wB ⟨rfl, n', lv', xs', hn', hmB, hB⟩
        have hbB := hbA.keep hmB (pcs_safe hhA.at_ hhA.row b _ _ hbA HOK.out.bty_is)
        have hnn : n' ≤ st ∨ n' = n := by
          have e1 := hB.pcs.length
          have e2 := hB.row.1
          have e3 := hhA.pcs.length
          have e4 := hhA.row.1
          rw [List.length_append] at e1
          by_cases hlt : e < st
          · left; omega
          · rw [if_neg hlt] at e1
            right
            simp at e1
            omega
        have k9 := hB.at_.list
        have hl9 := hB.at_.lt
        clear hmB hbA hhA
        go_wp2_with (at_builtin; refine ap_inl rfl (.tmp 147) (.tmp 149) rfl lv' n' xs' rfl (hB.row.alloc _) wB.heap.size 1 _ (.pointer (some ⟨b, 0, none⟩)) rfl ((Blk.newAt _ _ rfl).cell 0) (by omega) ?_)
        intro g cap wC hown1 hgrow hloc
        obtain ⟨k9', f9', hl9'⟩ := hB.push_at hgrow
        have hP := hB.push hown1 hgrow hloc HOK.out hbn2 hbB
        clear hgrow hloc hown1 k9 hl9
        go_wp2_with fail
        refine (skip_any bp _ _ _ hP.at_).mono ?_
        rintro e' wD ⟨rfl, hmD, hpD⟩
        go_wp2_with fail
        exact Handed.intro (s.size - en) (by omega) (hJ _ _ _ ⟨en, (fun d => cond (Nat.ble 9 d && Nat.ble d 15) (List.getD [_, _, _, _, _, _, _] (d - 9) undef) (cond (Nat.ble 33 d && Nat.ble d 165) (cond (Nat.ble d 96) (cond (Nat.ble d 64) (cond (Nat.ble d 48) (List.getD [_, _, _, _, _, _, _, _, _, _, _, _, _, _, _, _] (d - 33) undef) (List.getD [_, _, _, _, _, _, _, _, _, _, _, _, _, _, _, _] (d - 49) undef)) (cond (Nat.ble d 80) (List.getD [_, _, _, _, _, _, _, _, _, _, _, _, _, _, _, _] (d - 65) undef) (List.getD [_, _, _, _, _, _, _, _, _, _, _, _, _, _, _, _] (d - 81) undef))) (cond (Nat.ble d 128) (cond (Nat.ble d 112) (List.getD [_, _, _, _, _, _, _, _, _, _, _, _, _, _, _, _] (d - 97) undef) (List.getD [_, _, _, _, _, _, _, _, _, _, _, _, _, _, _, _] (d - 113) undef)) (cond (Nat.ble d 144) (List.getD [_, _, _, _, _, _, _, _, _, _, _, _, _, _, _, _] (d - 129) undef) (cond (Nat.ble d 160) (List.getD [_, _, _, _, _, _, _, _, _, _, _, _, _, _, _, _] (d - 145) undef) (List.getD [_, _, _, _, _] (d - 161) undef))))) (cond (Nat.ble 293 d && Nat.ble d 294) (List.getD [_, _] (d - 293) undef) (v d)))), ⟨rfl, h4, c1, en, n' + 1, _, _, _, r', Nat.le_refl _, by omega, hP.skipped hmD hpD, HP2.out, by rw [← HSC.out, HR.out]; simp⟩, rfl⟩)
      · have d1 : ((s[k].toNat : Int) == 92) = false := by rw [hc]; rfl
        have d2 : ((s[k].toNat : Int) == 96) = false := by rw [hc]; rfl
        have d3 : ((s[k].toNat : Int) == 60) = false := by rw [hc]; rfl
        have d4 : ((s[k].toNat : Int) == 91) = false := by rw [hc]; rfl
        have d5 : ((s[k].toNat : Int) == 33) = false := by rw [hc]; rfl
        have d6 : ((s[k].toNat : Int) == 95) = false := by rw [hc]; rfl
        have d7 : ((s[k].toNat : Int) == 42) = false := by rw [hc]; rfl
        have d8 : ((s[k].toNat : Int) == 46) = false := by rw [hc]; rfl
        have d9 : ((s[k].toNat : Int) == 45) = false := by rw [hc]; rfl
        have d10 : ((s[k].toNat : Int) == 34) = false := by rw [hc]; rfl
        have d11 : ((s[k].toNat : Int) == 39) = true := by rw [hc]; rfl
        rw [ho] at o9
        clear hc
        go_wp2_with fail
        refine (HCALL.out bp _ wr hh.at_).mono ?_
        rintro e' wA ⟨b, c1, rfl, hmA, hpA, hbn, hbA⟩
        have hbn2 := Nat.le_trans hh.mods.size hbn
        have hhA : Held w wA bp { p with corner := c1 } s e n lv xs pcs := hh.cornered hmA hpA
        clear hmA hpA hh
        go_wp2_with fail
        refine (emit_held hhA st h1 (by omega) (by omega) (by omega)).mono ?_
        rintro e' wB ⟨rfl, n', lv', xs', hn', hmB, hB⟩
        have hbB := hbA.keep hmB (pcs_safe hhA.at_ hhA.row b _ _ hbA HOK.out.bty_is)
        have hnn : n' ≤ st ∨ n' = n := by
          have e1 := hB.pcs.length
          have e2 := hB.row.1
          have e3 := hhA.pcs.length
          have e4 := hhA.row.1
          rw [List.length_append] at e1
          by_cases hlt : e < st
          · left; omega
          · rw [if_neg hlt] at e1
            right
            simp at e1
            omega
        have k9 := hB.at_.list
        have hl9 := hB.at_.lt
        clear hmB hbA hhA
        go_wp2_with (at_builtin; refine ap_inl rfl (.tmp 147) (.tmp 149) rfl lv' n' xs' rfl (hB.row.alloc _) wB.heap.size 1 _ (.pointer (some ⟨b, 0, none⟩)) rfl ((Blk.newAt _ _ rfl).cell 0) (by omega) ?_)
        intro g cap wC hown1 hgrow hloc
        obtain ⟨k9', f9', hl9'⟩ := hB.push_at hgrow
        have hP := hB.push hown1 hgrow hloc HOK.out hbn2 hbB
        clear hgrow hloc hown1 k9 hl9
        go_wp2_with fail
        refine (skip_any bp _ _ _ hP.at_).mono ?_
        rintro e' wD ⟨rfl, hmD, hpD⟩
        go_wp2_with fail
        exact Handed.intro (s.size - en) (by omega) (hJ _ _ _ ⟨en, (fun d => cond (Nat.ble 9 d && Nat.ble d 15) (List.getD [_, _, _, _, _, _, _] (d - 9) undef) (cond (Nat.ble 33 d && Nat.ble d 165) (cond (Nat.ble d 96) (cond (Nat.ble d 64) (cond (Nat.ble d 48) (List.getD [_, _, _, _, _, _, _, _, _, _, _, _, _, _, _, _] (d - 33) undef) (List.getD [_, _, _, _, _, _, _, _, _, _, _, _, _, _, _, _] (d - 49) undef)) (cond (Nat.ble d 80) (List.getD [_, _, _, _, _, _, _, _, _, _, _, _, _, _, _, _] (d - 65) undef) (List.getD [_, _, _, _, _, _, _, _, _, _, _, _, _, _, _, _] (d - 81) undef))) (cond (Nat.ble d 128) (cond (Nat.ble d 112) (List.getD [_, _, _, _, _, _, _, _, _, _, _, _, _, _, _, _] (d - 97) undef) (List.getD [_, _, _, _, _, _, _, _, _, _, _, _, _, _, _, _] (d - 113) undef)) (cond (Nat.ble d 144) (List.getD [_, _, _, _, _, _, _, _, _, _, _, _, _, _, _, _] (d - 129) undef) (cond (Nat.ble d 160) (List.getD [_, _, _, _, _, _, _, _, _, _, _, _, _, _, _, _] (d - 145) undef) (List.getD [_, _, _, _, _] (d - 161) undef))))) (cond (Nat.ble 293 d && Nat.ble d 294) (List.getD [_, _] (d - 293) undef) (v d)))), ⟨rfl, h4, c1, en, n' + 1, _, _, _, r', Nat.le_refl _, by omega, hP.skipped hmD hpD, HP2.out, by rw [← HSC.out, HR.out]; simp⟩, rfl⟩)
    · have w1 : ¬ ((k : Int) < s.size) := by omega
      have HSC := Lib.hid hsc
      have hend : pcs ++ (if e < s.size then [Pc.plain (s.extract e s.size)] else []) = all := by rw [← hsc]; rw [hk] at hpl; rw [plan_end hpl]
      have HEND := Lib.hid hend
      have HK := Lib.hid hk
      clear hsc hk hpl hend
      go_wp2_with fail
      refine (emit_held hh s.size (by have := HK.out; omega) (Nat.le_refl _) (by omega) (by omega)).mono ?_
      rintro e' wB ⟨rfl, n', lv', xs', hn', hmB, hB⟩
      rw [HEND.out] at hB
      have hn0 : 0 < n' := by
        have h1 := hB.pcs.length
        have h2 := hB.row.1
        have h4 : all.length ≠ 0 := fun h => HNE.out (List.length_eq_zero_iff.1 h)
        omega
      have hnk : n' ≤ s.size + 1 := by have := HK.out; omega
      obtain ⟨gl, cap, rfl, _, _, _⟩ := ownsRow_form hB.row hn0
      have hOB : Opt wB p 3 false := hO.keep hB.mods hpb
      have hpl9 : p.parser < w.heap.size := World.block_lt_of_cell? _ _ hO.cell
      have HE : ∀ W, Same wB W → Calls Tryz.prog 91 #[.pointer (some ⟨bp, 0, none⟩), .slice (some ⟨gl, 0, none⟩) 0 cap, .slice (some ⟨gl, 0, none⟩) n' cap] W fun e W' => ∃ g2 n2 cap2, e = .returned (.slice (some ⟨g2, 0, none⟩) n2 cap2) ∧ Mid w W' bp p s c0 ∧ P1 W' g2 n2 cap2 ∧
          (∃ v, W'.cell? ⟨bp, 9, none⟩ = some v) ∧ W'.frozen? ⟨bp, 9, none⟩ = false ∧ bp < W'.heap.size := fun W hW =>
        (hEm W gl n' cap xs' c0 (hB.same hW) hn0 hnk).mono fun e W' ⟨g2, n2, cap2, h1, h2, h3⟩ => by
          obtain ⟨l, e2, h4⟩ := h2.at_
          exact ⟨g2, n2, cap2, h1, h2, h3, ⟨_, h4.list⟩, h4.fr 9, h4.lt⟩
      have k9 := hB.at_.list
      have f9 := hB.at_.fr 9
      have hl9 := hB.at_.lt
      have hcap : (0 : Int) ≤ cap := by omega
      have hS0 : Same wB wB := Mods.refl _ _
      go_wp2_with fail
      go_region_with ((go_at_call 91; refine (HE _ (by repeat (first | assumption | apply Mods.drew))).mono ?_; rintro e' wC ⟨g2, n2, cap2, rfl, hMC, hPC, ⟨v9, k9'⟩, f9', hl9'⟩))
      all_goals
        obtain ⟨hMD, hmD, k9D⟩ := hMC.set9 (.slice (some ⟨g2, 0, none⟩) n2 cap2)
        have hPD := hP1 _ _ _ _ _ _ hPC (calm_ps hMC.at_.choose_spec.choose_spec) hmD
        obtain ⟨_, _, hpD⟩ := hMD.at_
        generalize (World.setCell wC _ _ : World) = wD at hMD hPD k9D hpD ⊢
        clear k9' f9' hl9' k9 f9 hl9 hMC hPC hmD
        have f9 := hpD.fr 9
        have hl9 := hpD.lt
        clear hpD
        go_wp2_with fail
        refine (hMe wD g2 n2 cap2 c0 hMD hPD).mono ?_
        rintro e' wE ⟨g3, n3, cap3, rfl, hME, hPE⟩
        obtain ⟨_, _, hpE⟩ := hME.at_
        clear f9 hl9 k9D
        have k9 := hpE.list
        have f9 := hpE.fr 9
        have hl9 := hpE.lt
        obtain ⟨hMF, hmF, k9F⟩ := hME.set9 (.slice (some ⟨g3, 0, none⟩) n3 cap3)
        have hPF := hP2 _ _ _ _ _ _ hPE (calm_ps hpE) hmF
        clear hpE
        go_wp2_with fail
        obtain ⟨_, _, hpF⟩ := hMF.at_
        generalize (World.setCell wE _ _ : World) = wF at hMF hPF k9F hpF ⊢
        have hOF : Opt wF p 3 false := hO.keep hMF.mods hpb
        refine (autoLinkText_off bp _ _ wF hpF hOF).mono ?_
        rintro e' wG ⟨rfl, rfl⟩
        clear k9 f9 hl9
        have f9 := hpF.fr 9
        have hl9 := hpF.lt
        obtain ⟨hMG, hmG, k9G⟩ := hMF.set9 (.slice (some ⟨g3, 0, none⟩) n3 cap3)
        have hPG := hP2 _ _ _ _ _ _ hPF (calm_ps hpF) hmG
        clear hpF hmG
        go_wp2_with fail
        go_ret
        exact ⟨g3, n3, cap3, c0, rfl, hMG, hPG⟩
end Go.Proofs.YtdnlfdppjfjncaaGreatDoor.G

/- (*Parser).parse of one line, with options, whatever its inlines are. -/
namespace Go.Proofs.YtdnlfdppjfjncaaGreatDoor.G
open Go Go.RowKit Go.Proofs

/-- The parser's options. -/
structure Opts (o : Op) (w : World) (pp : Nat) : Prop where
  lt : pp < w.heap.size
  ex : ∃ cs, Blk w pp cs 76 ∧ (∀ k, k < 10 → k ≠ 1 → k ≠ 9 → cs[k]? = some (.bool false)) ∧ cs[1]? = some (.bool o.strike) ∧ cs[9]? = some (.bool o.quote)
theorem Opts.opt {o : Op} {w : World} {pp : Nat} (h : Opts o w pp) {p : PSt} (hp : p.parser = pp) (k : Nat) (hk : k < 10) (h1 : k ≠ 1) (h9 : k ≠ 9) : Opt w p k false := by
  obtain ⟨cs, a, b, _⟩ := h.ex
  exact ⟨cs, by rw [hp]; exact a, b k hk h1 h9⟩
theorem Opts.op {o : Op} {w : World} {pp : Nat} (h : Opts o w pp) {p : PSt} (hp : p.parser = pp) : OpAt w p o := by
  obtain ⟨cs, a, _, b, c⟩ := h.ex
  exact ⟨⟨cs, by rw [hp]; exact a, b⟩, ⟨cs, by rw [hp]; exact a, c⟩⟩
theorem Opts.same {o : Op} {w w' : World} {pp : Nat} (h : Opts o w pp) (hm : Same w w') : Opts o w' pp := by
  obtain ⟨cs, a, b⟩ := h.ex
  exact ⟨Nat.lt_of_lt_of_le h.lt hm.size, cs, hm.blk a, b⟩

/-- What inline gives of the text s, for any parse state: a row of inlines that prints out. -/
def InlOf (o : Op) (pp : Nat) (s : ByteArray) (out : List UInt8) : Prop :=
  ∀ bp W q, PsAt W bp q → Opts o W pp → q.parser = pp → pp ≠ bp →
    Calls Tryz.prog 66 #[.pointer (some ⟨bp, 0, none⟩), .string s] W fun e w' => ∃ g n cap c, e = .returned (.slice (some ⟨g, 0, none⟩) n cap) ∧ Mid W w' bp q s c ∧ Row out w' g n cap

theorem triesC_of {bp g cap : Nat} {p : PSt} {T : Nat} {v : Value} {text : ByteArray} {nl : Int} (h : ∀ c W, NoPara W bp g 0 cap { p with corner := c } T v → TriesNo W bp 0 text nl) : TriesNoC bp g cap p T v text nl := by
  intro c W hN f hf
  refine (h c W hN f hf W (Mods.refl _ _)).mono ?_
  rintro e w' ⟨h1, h2⟩
  exact ⟨h1, h2.mono (fun _ _ x => absurd x (fun x => x)), c, hN.at_.same h2⟩

/-- Closed; the inlines of i of the one text read. -/
def DG (w : World) (pp : Nat) (s : ByteArray) (out : List UInt8) (tx : Value) (i : Nat) (W : World) : Prop :=
  (i = 0 ∧ Same w W ∧ ∃ g cap c rk pk tb tg tc ig ic, tx = .slice (some ⟨tg, 0, none⟩) 1 tc ∧ w.heap.size ≤ tb ∧
    Blk W rk #[.int .i64 0, .int .i64 0, .slice (some ⟨ig, 0, none⟩) 1 ic, .map none] 339 ∧
    Blk W pk #[.int .i64 1, .int .i64 1, .pointer (some ⟨tb, 0, none⟩)] 155 ∧
    Blk W tb #[.int .i64 1, .int .i64 1, .slice none 0 0, .string s] 110 ∧
    PsAt W w.heap.size { p2 pp g cap with corner := c, texts := .slice (some ⟨tg, 0, none⟩) 1 tc, stack := .slice (some ⟨g, 0, none⟩) 0 cap, root := .pointer (some ⟨rk, 0, none⟩) } ∧
    W.ownsRow 0 105 1 (.slice (some ⟨tg, 0, none⟩) 1 tc) 1 [.pointer (some ⟨tb, 0, none⟩)] ∧
    W.ownsRow 0 68 1 (.slice (some ⟨ig, 0, none⟩) 1 ic) 1 [.iface 153 (.pointer (some ⟨pk, 0, none⟩))]) ∨
  (i = 1 ∧ ∃ rk q, Same w W ∧ Prints W 48 (.pointer (some ⟨rk, 0, none⟩)) (pOpen ++ out ++ pClose) ∧ PsAt W w.heap.size q ∧ q.root = .pointer (some ⟨rk, 0, none⟩) ∧ q.parser = pp)

theorem reads_one (o : Op) (pp : Nat) (s : ByteArray) (w : World) (hs : OneLn s) (hB : Begins s 0) (out : List UInt8) (hI : InlOf o pp s out) (hO : Opts o w pp) : Reads w w.heap.size pp [s] (R1 w pp s) (DG w pp s out) 1 where
  line := by
    rintro j W ⟨_, g, cap, v, _, ⟨rfl, hp, _⟩ | ⟨rfl, c, bb, tv, hp, _⟩⟩
    · exact ⟨hp.lineno, hp.fr 3, hp.lt⟩
    · exact ⟨hp.lineno, hp.fr 3, hp.lt⟩
  same := by
    rintro j W W' ⟨h1, g, cap, v, h2, ⟨h3, h4, h5⟩ | ⟨h3, c, bb, tv, h4, h5, h6, h7, h8⟩⟩ hm
    · exact ⟨h1.trans hm, g, cap, v, h2, Or.inl ⟨h3, h4.same hm, ownsRow_keep h5 hm (fun _ _ x => x)⟩⟩
    · exact ⟨h1.trans hm, g, cap, v, h2, Or.inr ⟨h3, c, bb, tv, h4.same hm, h5, ownsRow_keep h6 hm (fun _ _ x => x), hm.blk h7, ownsRow_keep h8 hm (fun _ _ x => x)⟩⟩
  first := fun W g cap v hS hg' hp hr => ⟨hS, g, cap, v, hg', Or.inl ⟨rfl, hp, hr⟩⟩
  step := by
    rintro j l nl W hl ⟨hsame, g, cap, v, hgw, ⟨rfl, hp, hown⟩ | ⟨rfl, _⟩⟩
    · have hls : s = l := Option.some.inj hl
      subst hls
      have hm : Mods (fun k => k = w.heap.size) W (W.setCell ⟨w.heap.size, 3, none⟩ (.int .i64 (((0 : Nat) : Int) + 1))) := (Mods.refl (fun k => k = w.heap.size) W).setCell (p := ⟨w.heap.size, 3, none⟩) (fun _ => rfl) _
      have hpY : PsAt (W.setCell ⟨w.heap.size, 3, none⟩ (.int .i64 (((0 : Nat) : Int) + 1))) w.heap.size { p0 pp with lineno := 1, stack := .slice (some ⟨g, 0, none⟩) 1 cap } := hp.set 3 _ _ rfl (by decide)
      have hownY := ownsRow_keep hown hm (fun k hk x => own_ne_ps hown hp (by decide) (by rw [← x]; exact hk))
      generalize (W.setCell ⟨w.heap.size, 3, none⟩ (.int .i64 (((0 : Nat) : Int) + 1)) : World) = Y at *
      have hpl := hO.lt
      have hws := hsame.size
      have hYs := hm.size
      have hsz := hs.small
      have hppb : pp ≠ w.heap.size := by omega
      have hOY : Opt Y { p0 pp with lineno := 1, stack := .slice (some ⟨g, 0, none⟩) 1 cap } 5 false := ((hO.same hsame).opt rfl 5 (by omega) (by omega) (by omega)).keep hm hppb
      have hNP : NoPara Y w.heap.size g 0 cap { p0 pp with lineno := 1, stack := .slice (some ⟨g, 0, none⟩) 1 cap } 98 (.pointer v) := ⟨hpY, rfl, by omega, (row_cells (n := 0) (l := []) hownY).1, by decide⟩
      refine (addLine_firstC w.heap.size g cap _ _ _ _ s nl Y hNP (by omega) (blankAt_id hs.pos hs.first) hOY hownY hppb (triesC_of (fun c V hV => triesNo_begins w.heap.size g 0 cap _ _ _ s 0 nl V hV rfl (by decide) (Nat.zero_le _) ⟨by omega, hs.no9⟩ hB))).mono ?_
      rintro e w2 ⟨rfl, c, hPN⟩
      rw [trimL_id hs.pos hs.first] at hPN
      obtain ⟨hm2, g2, cap2, bb, tv, a1, a2, a3, a4, a5, a6, a7⟩ := hPN
      have hg2 : w.heap.size ≤ g2 := by
        by_cases hlt : g2 < Y.heap.size
        · have hh : g = g2 := Option.some.inj (a6 hlt)
          omega
        · omega
      refine ⟨rfl, ?_, g2, cap2, v, hg2, Or.inr ⟨rfl, c, bb, tv, a1, by omega, a2, a3, a4⟩⟩
      exact (hsame.then hm (fun b hb x => by omega)).then hm2 (fun b hb x => by
        rcases x with x | x
        · omega
        · have hh : g = b := Option.some.inj x
          omega)
    · simp at hl
  close := by
    rintro W ⟨hsame, g, cap, v, hgw, ⟨h, _⟩ | ⟨_, c, bb, tv, hp, hbb, hown, hB, htv⟩⟩
    · exact absurd h (by simp)
    · refine (closed_twoC w.heap.size g cap bb pp c tv s v W hp hown hB htv hs).mono ?_
      rintro e w' ⟨rfl, hTw⟩
      have hws := hsame.size
      obtain ⟨rk, pk, tb, tg, tc, ig, ic, hrk, hpk, htb, hR, hPk, hT, hps, htx, hin⟩ := hTw.ex
      exact ⟨rfl, _, _, hps.texts, Or.inl ⟨rfl, hsame.then hTw.mods (fun b hb h => by omega), g, cap, c, rk, pk, tb, tg, tc, ig, ic, rfl, by omega, hR, hPk, hT, hps, htx, hin⟩⟩
  texts := by
    rintro a c i W hi (⟨rfl, hsame, g, cap, cc, rk, pk, tb, tg, tc, ig, ic, htx0, htb, hR, hPk, hT, hps, htx, hin⟩ | ⟨rfl, _⟩)
    · cases htx0
      have t0 : W.cell? ⟨tg, 0, none⟩ = some (.pointer (some ⟨tb, 0, none⟩)) := by
        obtain ⟨_, _, he, _, _, hc⟩ := ownsRow_form htx (by omega)
        cases he
        exact hc 0 _ rfl
      have hcap : 1 ≤ c := by
        rcases htx.2 with ⟨h, _⟩ | ⟨_, _, _, hv, _, _, hc, _⟩
        · cases h
        · cases hv; exact hc
      have hz := hs.small
      have hTne : tb ≠ w.heap.size := by
        obtain ⟨tail, htl⟩ := id hps
        exact hT.ne_of_type htl (by decide)
      refine ⟨tg, tb, s, rfl, hcap, t0, hT.cell 3, ?_⟩
      refine (hI w.heap.size W _ hps (hO.same hsame) rfl (by have := hO.lt; omega)).mono ?_
      rintro e w4 ⟨gl, n, lc, c', rfl, hMid, hRow⟩
      have hmw := hMid.mods
      obtain ⟨l9, e9, hp4⟩ := hMid.at_
      have hc1 := calm_ps hps
      have hT4 := hT.keep1 hmw hTne
      have hmt : Mods (fun b => b = tb) w4 (w4.setCell ⟨tb, 2, none⟩ (.slice (some ⟨gl, 0, none⟩) n lc)) := (Mods.refl (fun b => b = tb) w4).setCell (p := ⟨tb, 2, none⟩) (fun _ => rfl) _
      have hc2 := calm_text hT4
      have hT5 := hT4.set_same 2 (.slice (some ⟨gl, 0, none⟩) n lc)
      obtain ⟨h0, h6, ys, os, r1, r2, r3⟩ := row_stays out _ _ _ _ _ _ hRow hc2 hmt
      have hR5 := (hR.keep hmw (hc1.not hR (by decide) (by decide))).keep hmt (hc2.not (hR.keep hmw (hc1.not hR (by decide) (by decide))) (by decide) (by decide))
      have hPk5 := (hPk.keep hmw (hc1.not hPk (by decide) (by decide))).keep hmt (hc2.not (hPk.keep hmw (hc1.not hPk (by decide) (by decide))) (by decide) (by decide))
      have hin4 := ownsRow_keep hin hmw (fun k hk x => own_ne_ps hin hps (by decide) (by rw [← x]; exact hk))
      have hin5 := ownsRow_keep hin4 hmt (fun k hk x => own_ne hin4 hT4 (by decide) (by rw [← x]; exact hk))
      have hpr := Prints.doc hR5 hin5 (by omega) (by omega) (.cons (Prints.para hPk5 hT5 r1 h0 h6 r2.prints) .nil)
      rw [r3] at hpr
      have hfl : [pOpen ++ out ++ pClose].flatten = pOpen ++ out ++ pClose := by simp
      rw [hfl] at hpr
      refine ⟨_, _, _, rfl, ⟨_, hT4.cell 2, hT4.fr 2, hT4.lt⟩, Or.inr ⟨rfl, rk, _, ?_, hpr, hp4.set_other (a := ⟨tb, 2, none⟩) hTne _, rfl, rfl⟩⟩
      exact (hsame.then hmw (fun b hb h => by omega)).then hmt (fun b hb h => by omega)
    · exact absurd hi (Nat.lt_irrefl _)
  sameD := by
    rintro tx i W W' (⟨h1, h2, g, cap, cc, rk, pk, tb, tg, tc, ig, ic, a1, a2, a3, a4, a5, a6, a7, a8⟩ | ⟨h1, rk, q, h2, h2b, h3, h4, h5⟩) hm
    · exact Or.inl ⟨h1, h2.trans hm, g, cap, cc, rk, pk, tb, tg, tc, ig, ic, a1, a2, hm.blk a3, hm.blk a4, hm.blk a5, a6.same hm, ownsRow_keep a7 hm (fun _ _ x => x), ownsRow_keep a8 hm (fun _ _ x => x)⟩
    · exact Or.inr ⟨h1, rk, q, h2.trans hm, h2b.same hm, h3.same hm, h4, h5⟩
  fin := by
    rintro tx W (⟨h, _⟩ | ⟨_, rk, q, h2, h2b, h3, h4, h5⟩)
    · exact absurd h (by decide)
    · have hoff := (hO.same h2).opt (p := p0 pp) rfl 2 (by omega) (by omega) (by omega)
      exact ⟨⟨rk, by rw [← h4]; exact h3.root⟩, ⟨_, h3.corner⟩, hoff.cell, by rw [← h5]; exact h3.parser⟩

theorem parse_one (o : Op) (pp : Nat) (s : ByteArray) (w : World) (hs : OneLn s) (hB : Begins s 0) (out : List UInt8) (hI : InlOf o pp s out) (hO : Opts o w pp) :
    Calls Tryz.prog 51 #[.pointer (some ⟨pp, 0, none⟩), .string s] w fun e w' => ∃ rk c, e = .returned (.tuple #[.pointer (some ⟨rk, 0, none⟩), .bool c]) ∧ Same w w' ∧ Prints w' 48 (.pointer (some ⟨rk, 0, none⟩)) (pOpen ++ out ++ pClose) := by
  refine (parse_gen pp (fun j => if j = 0 then s else ⟨#[]⟩) [s] w (feed_one hs) (R1 w pp s) (DG w pp s out) 1 (by omega) (reads_one o pp s w hs hB out hI hO)).mono ?_
  rintro e w' ⟨rk, c, rfl, h1, tx, ⟨h, _⟩ | ⟨_, rk', q, h2, h2b, h3, h4, h5⟩⟩
  · exact absurd h (by decide)
  · have e1 := h1.symm.trans (h3.root.trans (by rw [h4]))
    cases e1
    exact ⟨rk, c, rfl, h2, h2b⟩

/-- The agg of options: strikethrough and smart quotes as said, all else off. -/
def optV (o : Op) : Value := .agg #[.bool o.strike, .bool false, .bool false, .bool false, .bool false, .bool false, .bool false, .bool o.quote, .bool false, .bool false]

theorem impl_parser_of (o : Op) (w : World) :
    Calls Tryz.prog 38 #[.agg #[.bool o.strike, .bool false, .bool false, .bool false, .bool false, .bool false, .bool false, .bool o.quote, .bool false, .bool false]] w fun e w' => ∃ pp, e = .returned (.pointer (some ⟨pp, 0, none⟩)) ∧ Same w w' ∧ w.heap.size ≤ pp ∧ Opts o w' pp := by
  go_enter Tryz.func38, Tryz.ntmps38
  go_wp2_with fail
  go_ret
  refine ⟨w.heap.size + 1, rfl, ((Mods.refl _ w).alloc _).alloc _, by omega, ⟨by simp, _, Blk.newAt (n := w.heap.size + 1) _ _ (by simp), fun k hk h1 h9 => ?_, rfl, rfl⟩⟩
  have : k = 0 ∨ k = 2 ∨ k = 3 ∨ k = 4 ∨ k = 5 ∨ k = 6 ∨ k = 7 ∨ k = 8 := by omega
  rcases this with rfl | rfl | rfl | rfl | rfl | rfl | rfl | rfl <;> rfl

theorem parser_Parse_one (o : Op) (pp : Nat) (s : ByteArray) (w : World) (hs : OneLn s) (hB : Begins s 0) (out : List UInt8) (hI : InlOf o pp s out) (hO : Opts o w pp) :
    Calls Tryz.prog 39 #[.pointer (some ⟨pp, 0, none⟩), .string s] w fun e w' => ∃ rk, e = .returned (.pointer (some ⟨rk, 0, none⟩)) ∧ Same w w' ∧ Prints w' 48 (.pointer (some ⟨rk, 0, none⟩)) (pOpen ++ out ++ pClose) := by
  go_enter Tryz.func39, Tryz.ntmps39
  go_wp2_with fail
  refine (parse_one o pp s w hs hB out hI hO).mono ?_
  rintro e w' ⟨rk, c, rfl, h1, h2⟩
  go_wp2_with fail
  go_ret
  exact ⟨rk, rfl, h1, h2⟩

set_option maxHeartbeats 4000000 in
theorem html_gen (o : Op) (s : ByteArray) (w : World) (out : List UInt8) (hl : out.length ≤ 10000000)
    (hparse : ∀ (pp : Nat) (w1 : World), Opts o w1 pp → Calls Tryz.prog 39 #[.pointer (some ⟨pp, 0, none⟩), .string s] w1 fun e w' => ∃ rk, e = .returned (.pointer (some ⟨rk, 0, none⟩)) ∧ Same w1 w' ∧ Prints w' 48 (.pointer (some ⟨rk, 0, none⟩)) out) :
    Calls Tryz.prog 17 #[.agg #[.bool o.strike, .bool false, .bool false, .bool false, .bool false, .bool false, .bool false, .bool o.quote, .bool false, .bool false], .string s] w fun e w' => e = .returned (.string ⟨out.toArray⟩) ∧ Same w w' := by
  have HP := Lib.hid hparse
  clear hparse
  go_enter Tryz.func17, Tryz.ntmps17
  go_wp2_with fail
  generalize hW : (w.alloc _ : World) = W
  have hm : Same w W := by subst hW; exact (Mods.refl _ w).alloc _
  clear hW
  refine (impl_parser_of o W).mono ?_
  rintro e w1 ⟨pp, rfl, hm1, _, hO⟩
  go_wp2_with fail
  refine (HP.out pp w1 hO).mono ?_
  rintro e w2 ⟨rk, rfl, hm2, hpr⟩
  go_wp2_with fail
  refine (toHTML_gen w2 _ _ out hpr hl).mono ?_
  rintro e w3 ⟨rfl, hm3⟩
  go_wp2_with fail
  go_ret
  exact ⟨rfl, ((hm.trans hm1).trans hm2).trans hm3⟩

theorem html_one (o : Op) (s : ByteArray) (w : World) (hs : OneLn s) (hB : Begins s 0) (out : List UInt8) (hl : out.length ≤ 1000000) (hI : ∀ pp, InlOf o pp s out) :
    Calls Tryz.prog 17 #[.agg #[.bool o.strike, .bool false, .bool false, .bool false, .bool false, .bool false, .bool false, .bool o.quote, .bool false, .bool false], .string s] w fun e w' => e = .returned (.string ⟨(pOpen ++ out ++ pClose).toArray⟩) ∧ Same w w' :=
  html_gen o s w (pOpen ++ out ++ pClose) (by
    have h1 : pOpen.length = 3 := rfl
    have h2 : pClose.length = 5 := rfl
    simp only [List.length_append]
    omega) (fun pp w1 hO => parser_Parse_one o pp s w1 hs hB out (hI pp) hO)
end Go.Proofs.YtdnlfdppjfjncaaGreatDoor.G

/- The laws' own function word; lines of words. -/
namespace Go.Proofs.YtdnlfdppjfjncaaGreatDoor.G
open Go Go.RowKit Go.Proofs

def abzA : ByteArray := ⟨#[97, 98, 122, 48, 49, 57]⟩
set_option maxRecDepth 100000 in
theorem abzA_all : ∀ c : UInt8, ¬ Lib.indexByte abzA.data.toList c < 0 → Wd c := by
  have h : ∀ n : Fin 256, ¬ Lib.indexByte abzA.data.toList (UInt8.ofNat n.1) < 0 → (48 ≤ n.1 ∧ n.1 ≤ 57) ∨ (65 ≤ n.1 ∧ n.1 ≤ 90) ∨ (97 ≤ n.1 ∧ n.1 ≤ 122) := by decide +kernel
  intro c hc
  have := h ⟨c.toNat, c.toNat_lt⟩ (by simpa using hc)
  exact this

def wordB (s : ByteArray) : Bool := if s.size = 0 then false else if 20 < s.size then false else onF s abzA 0
theorem wordB_word {s : ByteArray} (h : wordB s = true) : Word s := by
  unfold wordB at h
  split at h
  · cases h
  · split at h
    · cases h
    · refine ⟨by omega, by omega, fun c hc => ?_⟩
      obtain ⟨i, hi, rfl⟩ := List.mem_iff_getElem.1 hc
      exact abzA_all _ (onF_get s abzA _ 0 rfl h i hi (Nat.zero_le _))

set_option maxHeartbeats 4000000 in
theorem word_any (s : ByteArray) (w : World) (hs : s.size ≤ 2147483647) :
    Calls Tryz.prog 26 #[.string s] w fun e w' => e = .returned (.bool (wordB s)) ∧ w = w' := by
  by_cases h : 0 < s.size
  · have e0 : s.toList.isEmpty = false := bs_ne h
    have e0' : (!s.toList.isEmpty) = true := by rw [e0]; rfl
    by_cases h20 : 20 < s.size
    · have hf : wordB s = false := by unfold wordB; rw [if_neg (by omega), if_pos h20]
      have HF := Lib.hid hf
      clear hf
      go_enter Tryz.func26, Tryz.ntmps26
      go_wp2_with fail
      refine (only_big s _ 20 w h20 hs).mono ?_
      rintro e w' ⟨rfl, rfl⟩
      go_wp2_with fail
      go_ret
      exact ⟨by rw [HF.out]; rfl, rfl⟩
    · have hf : wordB s = onF s abzA 0 := by unfold wordB; rw [if_neg (by omega), if_neg h20]
      have HF := Lib.hid hf
      clear hf
      go_enter Tryz.func26, Tryz.ntmps26
      go_wp2_with fail
      refine (only_any s abzA 20 w (by omega) (by omega)).mono ?_
      rintro e w' ⟨rfl, rfl⟩
      go_wp2_with fail
      go_ret
      exact ⟨by rw [HF.out]; rfl, rfl⟩
  · have hz : s = ⟨#[]⟩ := by
      apply ByteArray.ext_getElem
      · show s.size = 0; omega
      · intro i h1 h2; omega
    subst hz
    have HF : Hid (wordB ⟨#[]⟩ = false) := Lib.hid (by decide)
    go_enter Tryz.func26, Tryz.ntmps26
    go_wp2_with fail
    go_ret
    exact ⟨by rw [HF.out]; rfl, rfl⟩

theorem wd_pr {c : UInt8} (h : Wd c) : Pr c := by unfold Wd at h; unfold Pr; omega
theorem wd_ne {c : UInt8} (h : Wd c) (k : UInt8) (hk : ¬ Wd k) : c ≠ k := fun e => hk (e ▸ h)
theorem wd_isW {c : UInt8} (h : Wd c) : isW c = false := isW_of (wd_pr h) (wd_ne h 32 (by unfold Wd; decide))

/-- A line that begins with a letter or a digit and holds no full stop and no parenthesis is a paragraph's. -/
theorem plain_wd {s : ByteArray} (h0 : 0 < s.size) (hw : Wd s[0]) (hn : ∀ j (h : j < s.size), s[j].toNat ≠ 46 ∧ s[j].toNat ≠ 41) : Plain s 0 := by
  have h32 : s[0] ≠ 32 := wd_ne hw 32 (by unfold Wd; decide)
  have hl : p3 s 0 = 0 := by
    unfold p3 lead
    rw [dif_pos h0, if_neg h32]
  have ha0 : at0 s (p3 s 0) = s[0] := by rw [hl]; exact at0_eq h0
  have hk : ∀ k : Nat, ¬ ((48 ≤ k ∧ k ≤ 57) ∨ (65 ≤ k ∧ k ≤ 90) ∨ (97 ≤ k ∧ k ≤ 122)) → ((s[0].toNat : Int) ≠ k) := by
    intro k hp e
    unfold Wd at hw
    omega
  constructor
  · rw [ha0]; exact hk 62 (by decide)
  · rw [ha0]; exact hk 35 (by decide)
  · rw [ha0]; exact hk 45 (by decide)
  · rw [ha0]; exact hk 95 (by decide)
  · rw [ha0]; exact hk 42 (by decide)
  · rw [ha0]; exact hk 60 (by decide)
  · rw [ha0]; exact hk 96 (by decide)
  · rw [ha0]; exact hk 126 (by decide)
  · rw [ha0]; exact h32
  · unfold ItemNo
    rw [ha0]
    by_cases hd : isDig s[0]
    · refine Or.inr ⟨hd, ?_⟩
      rw [hl]
      intro t _
      have key : ∀ k : UInt8, k.toNat = 46 ∨ k.toNat = 41 → (at0 s (0 + t)).toNat ≠ k.toNat := by
        intro k hk e
        have hg := at0_get (UInt8.toNat_inj.1 e) (by intro h; rw [h] at hk; revert hk; decide)
        have hi : 0 + t < s.size := by
          have := (List.getElem?_eq_some_iff.1 hg).1
          simpa using this
        rw [get_of hi] at hg
        have he := Option.some.inj hg
        have := hn (0 + t) hi
        rw [he] at this
        omega
      exact ⟨key 46 (Or.inl rfl), key 41 (Or.inr rfl)⟩
    · left
      intro k hkm
      simp only [List.mem_cons, List.not_mem_nil, or_false] at hkm
      have hd' : ¬ (48 ≤ (s[0].toNat : Int) ∧ (s[0].toNat : Int) ≤ 57) := hd
      rcases hkm with rfl | rfl | rfl | rfl | rfl | rfl | rfl | rfl | rfl | rfl | rfl | rfl | rfl
      · exact hk 45 (by decide)
      · exact hk 42 (by decide)
      · exact hk 43 (by decide)
      all_goals omega

/-- The signs of a line of words. -/
def Fine (c : UInt8) : Prop := Wd c ∨ c = 32 ∨ c = 126 ∨ c = 34 ∨ c = 39
theorem fine_ne {c : UInt8} (h : Fine c) (k : UInt8) (hk : ¬ Fine k) : c ≠ k := fun e => hk (e ▸ h)
theorem fine_line {s : ByteArray} (h0 : 0 < s.size) (hs : s.size ≤ 900000) (hf : Wd s[0]) (hl : Wd (s[s.size - 1]'(by omega))) (ha : ∀ c ∈ s.data.toList, Fine c) : OneLn s ∧ Begins s 0 := by
  have hj : ∀ j (h : j < s.size), Fine s[j] := fun j h => ha _ (List.mem_of_getElem? (get_of h))
  refine ⟨⟨h0, hs, wd_isW hf, wd_isW hl, fun i h => fine_ne (hj i h) 0 (by unfold Fine Wd; decide), fun i h => fine_ne (hj i h) 10 (by unfold Fine Wd; decide), fun i h => fine_ne (hj i h) 13 (by unfold Fine Wd; decide), wd_ne hf 91 (by unfold Wd; decide), fun i h => fine_ne (hj i h) 9 (by unfold Fine Wd; decide)⟩, Or.inl (plain_wd h0 hf (fun j h => ?_))⟩
  have x := hj j h
  constructor
  · intro e
    exact fine_ne x 46 (by unfold Fine Wd; decide) (UInt8.toNat_inj.1 e)
  · intro e
    exact fine_ne x 41 (by unfold Fine Wd; decide) (UInt8.toNat_inj.1 e)

/-- A text without signs that HTML escapes prints as it is. -/
theorem escB_wd {l : List UInt8} (h : ∀ c ∈ l, c ≠ 34 ∧ c ≠ 38 ∧ c ≠ 60 ∧ c ≠ 62) : l.flatMap escB = l := by
  induction l with
  | nil => rfl
  | cons c l ih =>
    obtain ⟨x1, x2, x3, x4⟩ := h c (by simp)
    rw [List.flatMap_cons, ih (fun d hd => h d (by simp [hd]))]
    simp [escB, x1, x2, x3, x4]
theorem escN_wd (s : ByteArray) (h : ∀ c ∈ s.data.toList, c ≠ 34 ∧ c ≠ 38 ∧ c ≠ 60 ∧ c ≠ 62) : escN s s.size = s.data.toList := by rw [escN_all, escB_wd h]
theorem wd_safe {c : UInt8} (h : Wd c) : c ≠ 34 ∧ c ≠ 38 ∧ c ≠ 60 ∧ c ≠ 62 := ⟨wd_ne h 34 (by unfold Wd; decide), wd_ne h 38 (by unfold Wd; decide), wd_ne h 60 (by unfold Wd; decide), wd_ne h 62 (by unfold Wd; decide)⟩
end Go.Proofs.YtdnlfdppjfjncaaGreatDoor.G

/- inline of a word between tildes among words. -/
namespace Go.Proofs.YtdnlfdppjfjncaaGreatDoor.G
open Go Go.RowKit Go.Proofs

theorem toPlain_T {T : Nat} (h1 : ∀ X v w, (Instr.typeAssert (.iface T v) X 156 true).run Tryz.prog w = .ok (.tuple #[.pointer none, .bool false]) w)
    (h2 : ∀ X v w, (Instr.typeAssert (.iface T v) X 190 true).run Tryz.prog w = .ok (.tuple #[.pointer none, .bool false]) w)
    (h3 : ∀ X v w, (Instr.typeAssert (.iface T v) X 134 true).run Tryz.prog w = .ok (.tuple #[.pointer none, .bool false]) w)
    (a : Option Addr) (w : World) : Calls Tryz.prog 131 #[.iface T (.pointer a)] w fun e w' => e = .returned (.pointer none) ∧ w = w' := by
  go_enter Tryz.func131, Tryz.ntmps131
  go_wp2_with fail
  try rw [Exit.noGoto_ret]
  go_ret
  exact ⟨rfl, rfl⟩
theorem toPlain_del (a : Option Addr) (w : World) : Calls Tryz.prog 131 #[.iface 217 (.pointer a)] w fun e w' => e = .returned (.pointer none) ∧ w = w' :=
  toPlain_T (fun X v w => as_ptr_no _ 156 137 (by kernel_rfl) (fun _ => by kernel_rfl) X v w (by decide)) (fun X v w => as_ptr_no _ 190 192 (by kernel_rfl) (fun _ => by kernel_rfl) X v w (by decide)) (fun X v w => as_ptr_no _ 134 139 (by kernel_rfl) (fun _ => by kernel_rfl) X v w (by decide)) a w
theorem quiet_plain : Quiet 156 :=
  ⟨fun X v w => as_ptr_no _ 134 139 (by kernel_rfl) (fun _ => by kernel_rfl) X v w (by decide), fun X v w => as_ptr_no _ 190 192 (by kernel_rfl) (fun _ => by kernel_rfl) X v w (by decide)⟩

/-- A list of inlines that prints out, with its kinds. -/
def RowK (out : List UInt8) (ks : List Bool) (w : World) (g n cap : Nat) : Prop :=
  0 < n ∧ n ≤ 1000000 ∧ ∃ ys os, w.ownsRow 0 132 1 (.slice (some ⟨g, 0, none⟩) n cap) n ys ∧ InsAt w ys os ∧ os.flatten = out ∧ Kinds ys ks
theorem rowK_stays (out : List UInt8) (ks : List Bool) : Stays (RowK out ks) := by
  rintro S W W' g n c ⟨h0, h6, ys, os, h1, h2, h3, h4⟩ hc hm
  exact ⟨h0, h6, ys, os, hc.row hm h0 h1, h2.keep hc hm, h3, h4⟩
theorem RowK.row {out : List UInt8} {ks : List Bool} {w : World} {g n cap : Nat} (h : RowK out ks w g n cap) : Row out w g n cap := by
  obtain ⟨h0, h6, ys, os, h1, h2, h3, _⟩ := h
  exact ⟨h0, h6, ys, os, h1, h2, h3⟩
theorem RowK.same {out : List UInt8} {ks : List Bool} {w w' : World} {g n cap : Nat} (h : RowK out ks w g n cap) (hm : Same w w') : RowK out ks w' g n cap := rowK_stays out ks (fun _ => False) w w' g n cap h (fun _ _ _ _ h => h.elim) hm

/-- mergePlain of a row whose plain texts stand apart. -/
theorem merge_row (out : List UInt8) (ks : List Bool) (hpp : ∀ i, ks[i]? = some true → ks[i + 1]? = some true → False) (W0 : World) (bp : Nat) (p : PSt) (s : ByteArray) :
    ∀ W g n cap c, Mid W0 W bp p s c → RowK out ks W g n cap →
      Calls Tryz.prog 92 #[.pointer (some ⟨bp, 0, none⟩), .slice (some ⟨g, 0, none⟩) n cap] W fun e W' => ∃ g2 n2 cap2, e = .returned (.slice (some ⟨g2, 0, none⟩) n2 cap2) ∧ Mid W0 W' bp p s c ∧ Row out W' g2 n2 cap2 := by
  intro W g n cap c hM hR
  obtain ⟨_, h6, ys, os, h1, _, _, h4⟩ := id hR
  refine (mergePlain_k _ g n cap ys ks W h1 h4 hpp h6).mono ?_
  rintro e w' ⟨rfl, hm⟩
  exact ⟨g, n, cap, rfl, hM.same hm, (hR.same hm).row⟩

theorem pcs5 {w : World} {xs : List Value} {p0 p1 p2 p3 p4 : Pc} (h : PcsAt w xs [p0, p1, p2, p3, p4]) :
    ∃ b0 b1 b2 b3 b4, xs = [.iface p0.ty (.pointer (some ⟨b0, 0, none⟩)), .iface p1.ty (.pointer (some ⟨b1, 0, none⟩)), .iface p2.ty (.pointer (some ⟨b2, 0, none⟩)), .iface p3.ty (.pointer (some ⟨b3, 0, none⟩)), .iface p4.ty (.pointer (some ⟨b4, 0, none⟩))] ∧
      Blk w b0 p0.cells p0.bty ∧ Blk w b1 p1.cells p1.bty ∧ Blk w b2 p2.cells p2.bty ∧ Blk w b3 p3.cells p3.bty ∧ Blk w b4 p4.cells p4.bty := by
  rcases xs with _ | ⟨x0, _ | ⟨x1, _ | ⟨x2, _ | ⟨x3, _ | ⟨x4, _ | ⟨x5, xs⟩⟩⟩⟩⟩⟩
  · exact h.elim
  · exact h.2.elim
  · exact h.2.2.elim
  · exact h.2.2.2.elim
  · exact h.2.2.2.2.elim
  · obtain ⟨⟨_, b0, rfl, k0⟩, ⟨_, b1, rfl, k1⟩, ⟨_, b2, rfl, k2⟩, ⟨_, b3, rfl, k3⟩, ⟨_, b4, rfl, k4⟩, _⟩ := h
    exact ⟨b0, b1, b2, b3, b4, rfl, k0, k1, k2, k3, k4⟩
  · exact h.2.2.2.2.2.elim

def struckOut (a b c : ByteArray) : List UInt8 := escN a a.size ++ ((delO ++ escN b b.size ++ delC) ++ escN c c.size)

theorem emph_row_struck (ta tb tc tt : ByteArray) (htt : tt = ⟨#[126]⟩ ∨ tt = ⟨#[126, 126]⟩) (ha : ta.size ≤ 1000000) (hb : tb.size ≤ 1000000) (hc : tc.size ≤ 1000000) (W0 : World) (bp : Nat) (q : PSt) (s : ByteArray) :
    ∀ W g n cap xs c, Held W0 W bp { q with corner := c } s s.size n (.slice (some ⟨g, 0, none⟩) n cap) xs [.plain ta, mark tt true false tt.size, .plain tb, mark tt false true tt.size, .plain tc] → 0 < n → n ≤ s.size + 1 →
      Calls Tryz.prog 91 #[.pointer (some ⟨bp, 0, none⟩), .slice (some ⟨g, 0, none⟩) 0 cap, .slice (some ⟨g, 0, none⟩) n cap] W fun e W' => ∃ g2 n2 cap2, e = .returned (.slice (some ⟨g2, 0, none⟩) n2 cap2) ∧ Mid W0 W' bp q s c ∧ RowK (struckOut ta tb tc) [true, false, true] W' g2 n2 cap2 := by
  intro W g n cap xs c h _ _
  obtain ⟨b0, b1, b2, b3, b4, rfl, k0, k1, k2, k3, k4⟩ := pcs5 h.pcs
  have k0 : Blk W b0 #[.string ta] 137 := k0
  have k2 : Blk W b2 #[.string tb] 137 := k2
  have k4 : Blk W b4 #[.string tc] 137 := k4
  have hn5 : n = 5 := by have := h.row.1; simp at this; omega
  subst hn5
  have hgf := h.fresh g rfl
  have n1 := h.new (.iface (mark tt true false tt.size).ty (.pointer (some ⟨b1, 0, none⟩))) (by simp) _ b1 rfl
  have n3 := h.new (.iface (mark tt false true tt.size).ty (.pointer (some ⟨b3, 0, none⟩))) (by simp) _ b3 rfl
  obtain ⟨_, _, he, ⟨cur, hcur⟩, _, _⟩ := ownsRow_form h.row (by omega)
  cases he
  have hgw := hcur.lt
  have hm13 : b1 ≠ b3 := by
    intro e
    subst e
    have x1 := k1.cell 1
    rw [k3.cell 1] at x1
    have x2 : (some (Value.bool false) : Option Value) = some (Value.bool true) := x1
    cases x2
  have hne : ∀ {b : Nat} {cs : Array Value} {T : Nat}, Blk W b cs T → T ≠ 132 → T ≠ 192 → ¬ (b = g ∨ b = b1 ∨ b = b3) := by
    rintro b cs T hb h1 h2 (e | e | e)
    · exact hb.ne_of_type hcur h1 e
    · exact hb.ne_of_type k1 h2 e
    · exact hb.ne_of_type k3 h2 e
  refine (emph_struck _ g cap b1 b3 156 156 156 (.pointer (some ⟨b0, 0, none⟩)) (.pointer (some ⟨b2, 0, none⟩)) (.pointer (some ⟨b4, 0, none⟩)) tt W htt h.row quiet_plain quiet_plain quiet_plain k1 k3 hm13 hgw).mono ?_
  rintro e W' ⟨rfl, hSt⟩
  rcases hSt with ⟨h9, _⟩ | ⟨h9, _⟩ | ⟨h9, _⟩ | ⟨h9, _⟩ | ⟨_, sa, db, ig, ic, hdi, hE, hdb, hig⟩
  · exact absurd h9 (by decide)
  · exact absurd h9 (by decide)
  · exact absurd h9 (by decide)
  · exact absurd h9 (by decide)
  have r4 := ownsRow_pop (xs := [.iface 156 (.pointer (some ⟨b0, 0, none⟩)), .iface 217 (.pointer (some ⟨db, 0, none⟩)), .iface 156 (.pointer (some ⟨b4, 0, none⟩)), .iface 190 (.pointer (some ⟨b3, 0, none⟩))]) (ys := [_]) hE.row rfl
  have r3 := ownsRow_pop (xs := [.iface 156 (.pointer (some ⟨b0, 0, none⟩)), .iface 217 (.pointer (some ⟨db, 0, none⟩)), .iface 156 (.pointer (some ⟨b4, 0, none⟩))]) (ys := [_]) r4 rfl
  refine ⟨g, 3, cap, rfl, ⟨h.mods.then hE.mods (fun b hb x => absurd hb (by rcases x with e | e | e <;> omega)), ?_⟩, by omega, by omega, _, [escN ta ta.size, delO ++ [escN tb tb.size].flatten ++ delC, escN tc tc.size], r3, ?_, ?_, ⟨rfl, ?_⟩⟩
  · obtain ⟨tail, htl⟩ := id h.at_
    exact ⟨_, _, h.at_.keep hE.mods (hne htl (by decide) (by decide))⟩
  · exact .plain (k0.keep hE.mods (hne k0 (by decide) (by decide))) ha (.del hdb (Or.inr rfl) hig (by omega) (by omega) (.plain (k2.keep hE.mods (hne k2 (by decide) (by decide))) hb .nil) (.plain (k4.keep hE.mods (hne k4 (by decide) (by decide))) hc .nil))
  · simp [struckOut]
  · intro i x hx
    rcases i with _ | _ | _ | i
    · exact ⟨b0, _, (Option.some.inj hx).symm, Or.inl ⟨rfl, rfl⟩⟩
    · exact ⟨db, _, (Option.some.inj hx).symm, Or.inr ⟨rfl, toPlain_del⟩⟩
    · exact ⟨b4, _, (Option.some.inj hx).symm, Or.inl ⟨rfl, rfl⟩⟩
    · simp at hx

theorem three_line {x m z : List UInt8} (hx0 : 0 < x.length) (hz0 : 0 < z.length) (hx : ∀ c ∈ x, Wd c) (hz : ∀ c ∈ z, Wd c) (hm : ∀ c ∈ m, Fine c) (hl : x.length + (m.length + z.length) ≤ 900000) :
    OneLn (strL (x ++ (m ++ z))) ∧ Begins (strL (x ++ (m ++ z))) 0 := by
  generalize hs : strL (x ++ (m ++ z)) = s
  have hlist : s.data.toList = x ++ (m ++ z) := by rw [← hs]; simp [strL]
  have hsz : s.size = x.length + (m.length + z.length) := by
    have e : s.size = s.data.toList.length := rfl
    rw [e, hlist, List.length_append, List.length_append]
  have f0 : FromL s 0 (x ++ (m ++ z)) := by unfold FromL; rw [List.drop_zero, hlist]
  have f2 : FromL s (x.length + m.length) (z ++ []) := by
    rw [List.append_nil]
    have := (f0.app).app
    rw [Nat.zero_add] at this
    exact this
  refine fine_line (by omega) (by omega) (hx _ (f0.mem 0 (by omega) (Nat.le_refl _) (by omega))) (hz _ (f2.mem (s.size - 1) (by omega) (by omega) (by omega))) (fun c hc => ?_)
  rw [hlist] at hc
  rcases List.mem_append.1 hc with h | h
  · exact Or.inl (hx c h)
  · rcases List.mem_append.1 h with h | h
    · exact hm c h
    · exact Or.inl (hz c h)

theorem struck_parts (a b c : ByteArray) (n : Nat) : struckT a b c n = strL (a.data.toList ++ ((32 :: (runL n ++ (b.data.toList ++ (runL n ++ [32])))) ++ c.data.toList)) := by
  unfold struckT struckL
  simp
theorem struck_size (a b c : ByteArray) (n : Nat) : (struckT a b c n).size = a.size + b.size + c.size + 2 * n + 2 := by
  have e1 : a.data.toList.length = a.size := rfl
  have e2 : b.data.toList.length = b.size := rfl
  have e3 : c.data.toList.length = c.size := rfl
  rw [struckT, strL_size, struckL]
  simp only [List.length_append, List.length_cons, runL, List.length_replicate, e1, e2, e3]
  omega
theorem struck_mid (b : ByteArray) (n : Nat) (hb : Word b) : ∀ c ∈ (32 :: (runL n ++ (b.data.toList ++ (runL n ++ [32])))), Fine c := by
  have hr : ∀ c ∈ runL n, Fine c := fun c hc => Or.inr (Or.inr (Or.inl (List.mem_replicate.1 hc).2))
  intro c hc
  rcases List.mem_cons.1 hc with rfl | h
  · exact Or.inr (Or.inl rfl)
  · rcases List.mem_append.1 h with h | h
    · exact hr c h
    · rcases List.mem_append.1 h with h | h
      · exact Or.inl (hb.all c h)
      · rcases List.mem_append.1 h with h | h
        · exact hr c h
        · exact Or.inr (Or.inl (List.mem_singleton.1 h))
theorem struck_line (a b c : ByteArray) (n : Nat) (ha : Word a) (hb : Word b) (hc : Word c) (hn : n = 1 ∨ n = 2) : OneLn (struckT a b c n) ∧ Begins (struckT a b c n) 0 := by
  rw [struck_parts]
  have h1 := ha.pos
  have h2 := ha.le
  have h3 := hb.le
  have h4 := hc.pos
  have h5 := hc.le
  refine three_line h1 h4 ha.all hc.all (struck_mid b n hb) ?_
  have e1 : a.data.toList.length = a.size := rfl
  have e2 : b.data.toList.length = b.size := rfl
  have e3 : c.data.toList.length = c.size := rfl
  simp only [List.length_append, List.length_cons, runL, List.length_replicate, e1, e2, e3, List.length_nil]
  omega

theorem sz_snoc (a : ByteArray) (x : UInt8) : (strL (a.data.toList ++ [x])).size = a.size + 1 := by rw [strL_size, List.length_append]; rfl
theorem sz_cons (a : ByteArray) (x : UInt8) : (strL (x :: a.data.toList)).size = a.size + 1 := by rw [strL_size, List.length_cons]; rfl

theorem inl_struck (a b c : ByteArray) (n : Nat) (pp : Nat) (ha : Word a) (hb : Word b) (hc : Word c) (hn : n = 1 ∨ n = 2) :
    InlOf ⟨true, false⟩ pp (struckT a b c n) (struckOut (strL (a.data.toList ++ [32])) b (strL (32 :: c.data.toList))) := by
  intro bp W q hq hO hpp hne
  have hL := (struck_line a b c n ha hb hc hn).1
  have h2 := ha.le
  have h3 := hb.le
  have h5 := hc.le
  have hsz := struck_size a b c n
  have z1 := sz_snoc a 32
  have z2 := sz_cons c 32
  have htt : strL (runL n) = ⟨#[126]⟩ ∨ strL (runL n) = ⟨#[126, 126]⟩ := by
    rcases hn with rfl | rfl
    · exact Or.inl rfl
    · exact Or.inr rfl
  have hts : (strL (runL n)).size = n := by rw [strL_size]; simp [runL]
  have hP := struck_plan a b c n ⟨true, false⟩ rfl ha hb hc hn
  have hEm := emph_row_struck (strL (a.data.toList ++ [32])) b (strL (32 :: c.data.toList)) (strL (runL n)) htt (by omega) (by omega) (by omega) W bp q (struckT a b c n)
  rw [hts] at hEm
  exact inline_gen ⟨true, false⟩ bp q (struckT a b c n) W hq hL.small hL.pos _ hP (hO.opt hpp 3 (by omega) (by decide) (by decide)) (hO.op hpp) (by rw [hpp]; exact hne)
    (trimSpaceTab_id _ W (by have := hL.small; omega) hL.pos hL.first hL.last) _ _ (rowK_stays _ _) (row_stays _) hEm
    (merge_row _ [true, false, true] (fun i h1 h2 => by rcases i with _ | _ | _ | i <;> simp at h1 h2) W bp q _)

/-- A text of idle signs is one plain text. -/
theorem plan_idle {o : Op} {s : ByteArray} (h0 : 0 < s.size) (hd : ∀ j (h : j < s.size), Idle o s[j]) : Plan o s 0 0 [.plain s] := by
  have hf := Plan.fin (o := o) (s := s) 0
  rw [if_pos h0, ext_all] at hf
  exact plan_skip s.size 0 (by omega) (fun j hj _ _ => hd j hj) (by rw [Nat.zero_add]; exact hf)

theorem inl_idle (o : Op) (s : ByteArray) (pp : Nat) (hL : OneLn s) (hd : ∀ j (h : j < s.size), Idle o s[j]) : InlOf o pp s (escN s s.size) := by
  intro bp W q hq hO hpp hne
  have hsm := hL.small
  refine inline_gen o bp q s W hq hL.small hL.pos _ (plan_idle hL.pos hd) (hO.opt hpp 3 (by omega) (by decide) (by decide)) (hO.op hpp) (by rw [hpp]; exact hne)
    (trimSpaceTab_id _ W (by omega) hL.pos hL.first hL.last) (RowK (escN s s.size) [true]) _ (rowK_stays _ _) (row_stays _) ?_
    (merge_row _ [true] (fun i h1 h2 => by rcases i with _ | i <;> simp at h1 h2) W bp q _)
  intro W1 g n cap xs c h _ _
  obtain ⟨x, rfl, b, hx, hb⟩ : ∃ x, xs = [x] ∧ ∃ b, x = .iface 156 (.pointer (some ⟨b, 0, none⟩)) ∧ Blk W1 b #[.string s] 137 := by
    have hp := h.pcs
    rcases xs with _ | ⟨x, _ | ⟨y, xs⟩⟩
    · exact hp.elim
    · obtain ⟨⟨_, b, hx, hb⟩, _⟩ := hp
      exact ⟨x, rfl, b, hx, hb⟩
    · exact hp.2.elim
  have hn1 : n = 1 := by have := h.row.1; simp at this; omega
  subst hn1
  refine (emph_id _ g 1 cap [x] [Go.Proofs.YtdnlfdppjfjncaaGreatDoor.Pc.plain s] W1 h.row ⟨⟨b, hx, hb⟩, trivial⟩ (by omega)).mono ?_
  rintro e W' ⟨rfl, hm⟩
  refine ⟨g, 1, cap, rfl, ⟨h.mods.then hm (fun b hb x => absurd x (fun x => x)), _, _, h.at_.same hm⟩, by omega, by omega, [x], [escN s s.size], ownsRow_keep h.row hm (fun _ _ x => x), ?_, by simp, ⟨rfl, ?_⟩⟩
  · subst hx
    exact .plain (hm.blk hb) (by omega) .nil
  · intro i y hy
    rcases i with _ | i
    · exact ⟨b, _, (Option.some.inj hy).symm.trans hx, Or.inl ⟨rfl, rfl⟩⟩
    · simp at hy
end Go.Proofs.YtdnlfdppjfjncaaGreatDoor.G

/- FnStruck answers true. -/
namespace Go.Proofs.YtdnlfdppjfjncaaGreatDoor.G
open Go Go.RowKit Go.Proofs

/-- The text and the HTML as the law spells them. -/
def runB (n : Nat) : ByteArray := if n = 1 then ⟨#[126]⟩ else ⟨#[126, 126]⟩
theorem struck_text (a b c : ByteArray) (n : Nat) (hn : n = 1 ∨ n = 2) : a ++ (⟨#[32]⟩ : ByteArray) ++ runB n ++ b ++ runB n ++ (⟨#[32]⟩ : ByteArray) ++ c = struckT a b c n := by
  apply ByteArray.ext
  rcases hn with rfl | rfl
  · simp [struckT, struckL, strL, runL, runB]
  · simp [struckT, struckL, strL, runL, runB, List.replicate]
def struckW (a b c : ByteArray) : ByteArray := (⟨#[60, 112, 62]⟩ : ByteArray) ++ a ++ (⟨#[32, 60, 100, 101, 108, 62]⟩ : ByteArray) ++ b ++ (⟨#[60, 47, 100, 101, 108, 62, 32]⟩ : ByteArray) ++ c ++ (⟨#[60, 47, 112, 62, 10]⟩ : ByteArray)
theorem struck_want (a b c : ByteArray) (ha : Word a) (hb : Word b) (hc : Word c) : (⟨(pOpen ++ struckOut (strL (a.data.toList ++ [32])) b (strL (32 :: c.data.toList)) ++ pClose).toArray⟩ : ByteArray) = struckW a b c := by
  have e1 : escN (strL (a.data.toList ++ [32])) (strL (a.data.toList ++ [32])).size = a.data.toList ++ [32] := by
    rw [escN_wd]
    · simp [strL]
    · intro d hd
      simp only [strL, List.toList_toArray] at hd
      rcases List.mem_append.1 hd with h | h
      · exact wd_safe (ha.all d h)
      · rw [List.mem_singleton.1 h]; decide
  have e2 : escN b b.size = b.data.toList := escN_wd b (fun d hd => wd_safe (hb.all d hd))
  have e3 : escN (strL (32 :: c.data.toList)) (strL (32 :: c.data.toList)).size = 32 :: c.data.toList := by
    rw [escN_wd]
    · simp [strL]
    · intro d hd
      simp only [strL, List.toList_toArray] at hd
      rcases List.mem_cons.1 hd with h | h
      · rw [h]; decide
      · exact wd_safe (hc.all d h)
  rw [struckOut, e1, e2, e3]
  apply ByteArray.ext
  simp [struckW, pOpen, pClose, delO, delC]
def paraW (s : ByteArray) : ByteArray := (⟨#[60, 112, 62]⟩ : ByteArray) ++ s ++ (⟨#[60, 47, 112, 62, 10]⟩ : ByteArray)
theorem para_want (s : ByteArray) (h : ∀ c ∈ s.data.toList, c ≠ 34 ∧ c ≠ 38 ∧ c ≠ 60 ∧ c ≠ 62) : (⟨(pOpen ++ escN s s.size ++ pClose).toArray⟩ : ByteArray) = paraW s := by
  rw [escN_wd s h]
  apply ByteArray.ext
  simp [paraW, pOpen, pClose]

theorem html_struck (a b c : ByteArray) (n : Nat) (w : World) (ha : Word a) (hb : Word b) (hc : Word c) (hn : n = 1 ∨ n = 2) :
    Calls Tryz.prog 17 #[.agg #[.bool true, .bool false, .bool false, .bool false, .bool false, .bool false, .bool false, .bool false, .bool false, .bool false], .string (struckT a b c n)] w fun e w' => e = .returned (.string (struckW a b c)) ∧ Same w w' := by
  obtain ⟨hL, hB⟩ := struck_line a b c n ha hb hc hn
  have hl : (struckOut (strL (a.data.toList ++ [32])) b (strL (32 :: c.data.toList))).length ≤ 1000000 := by
    have h2 := ha.le
    have h3 := hb.le
    have h5 := hc.le
    have z1 := sz_snoc a 32
    have z2 := sz_cons c 32
    have x1 := escN_len (strL (a.data.toList ++ [32])) _ (Nat.le_refl _)
    have x2 := escN_len b _ (Nat.le_refl _)
    have x3 := escN_len (strL (32 :: c.data.toList)) _ (Nat.le_refl _)
    have d1 : delO.length = 5 := rfl
    have d2 : delC.length = 6 := rfl
    simp only [struckOut, List.length_append]
    omega
  have h := html_one ⟨true, false⟩ (struckT a b c n) w hL hB _ hl (fun pp => inl_struck a b c n pp ha hb hc hn)
  rw [struck_want a b c ha hb hc] at h
  exact h

theorem html_unstruck (a b c : ByteArray) (n : Nat) (w : World) (ha : Word a) (hb : Word b) (hc : Word c) (hn : n = 1 ∨ n = 2) :
    Calls Tryz.prog 17 #[.agg #[.bool false, .bool false, .bool false, .bool false, .bool false, .bool false, .bool false, .bool false, .bool false, .bool false], .string (struckT a b c n)] w fun e w' => e = .returned (.string (paraW (struckT a b c n))) ∧ Same w w' := by
  obtain ⟨hL, hB⟩ := struck_line a b c n ha hb hc hn
  have hf : ∀ d ∈ (struckT a b c n).data.toList, Wd d ∨ d = 32 ∨ d = 126 := by
    intro d hd
    have hd2 : d ∈ struckL a b c n := by simpa [struckT, strL] using hd
    unfold struckL at hd2
    have hr : ∀ d ∈ runL n, d = 126 := fun d h => (List.mem_replicate.1 h).2
    rcases List.mem_append.1 hd2 with h | h
    · exact Or.inl (ha.all d h)
    rcases List.mem_cons.1 h with h | h
    · exact Or.inr (Or.inl h)
    rcases List.mem_append.1 h with h | h
    · exact Or.inr (Or.inr (hr d h))
    rcases List.mem_append.1 h with h | h
    · exact Or.inl (hb.all d h)
    rcases List.mem_append.1 h with h | h
    · exact Or.inr (Or.inr (hr d h))
    rcases List.mem_cons.1 h with h | h
    · exact Or.inr (Or.inl h)
    · exact Or.inl (hc.all d h)
  have hsz := struck_size a b c n
  have h2 := ha.le
  have h3 := hb.le
  have h5 := hc.le
  have hl := escN_len (struckT a b c n) _ (Nat.le_refl _)
  have h := html_one ⟨false, false⟩ (struckT a b c n) w hL hB _ (by omega) (fun pp => inl_idle ⟨false, false⟩ _ pp hL (fun j hj => by
    rcases hf _ (List.mem_of_getElem? (get_of hj)) with e | e | e
    · exact Or.inl (wd_dull _ e)
    · exact Or.inl (by rw [e]; decide)
    · exact Or.inr (Or.inl ⟨e, rfl⟩)))
  rw [para_want _ (fun d hd => by
    rcases hf d hd with e | e | e
    · exact wd_safe e
    · rw [e]; decide
    · rw [e]; decide)] at h
  exact h

set_option maxHeartbeats 8000000 in
theorem law_struck (a b c : ByteArray) (two : Bool) (w : World) :
    Calls Tryz.prog 13 #[.string a, .string b, .string c, .bool two] w fun e w' => e = .returned (.bool true) ∧ Same w w' := by
  by_cases ba : 2147483647 < a.size
  · have w0 : (2147483647 : Int) < a.size := by omega
    go_enter Tryz.func13, Tryz.ntmps13
    go_wp2_with fail
    go_ret
    exact ⟨rfl, Mods.refl _ _⟩
  have w0 : ¬ (2147483647 : Int) < a.size := by omega
  by_cases bb : 2147483647 < b.size
  · have w1 : (2147483647 : Int) < b.size := by omega
    go_enter Tryz.func13, Tryz.ntmps13
    go_wp2_with fail
    go_ret
    exact ⟨rfl, Mods.refl _ _⟩
  have w1 : ¬ (2147483647 : Int) < b.size := by omega
  by_cases bc : 2147483647 < c.size
  · have w2 : (2147483647 : Int) < c.size := by omega
    go_enter Tryz.func13, Tryz.ntmps13
    go_wp2_with fail
    go_ret
    exact ⟨rfl, Mods.refl _ _⟩
  have w2 : ¬ (2147483647 : Int) < c.size := by omega
  cases hA : wordB a with
  | false =>
    go_enter Tryz.func13, Tryz.ntmps13
    go_wp2_with fail
    refine (word_any a w (by omega)).mono ?_
    rintro e w' ⟨rfl, rfl⟩
    rw [hA]
    go_wp2_with fail
    go_ret
    exact ⟨rfl, Mods.refl _ _⟩
  | true =>
  cases hB : wordB b with
  | false =>
    go_enter Tryz.func13, Tryz.ntmps13
    go_wp2_with fail
    refine (word_any a w (by omega)).mono ?_
    rintro e w' ⟨rfl, rfl⟩
    rw [hA]
    go_wp2_with fail
    refine (word_any b w (by omega)).mono ?_
    rintro e w' ⟨rfl, rfl⟩
    rw [hB]
    go_wp2_with fail
    go_ret
    exact ⟨rfl, Mods.refl _ _⟩
  | true =>
  cases hC : wordB c with
  | false =>
    go_enter Tryz.func13, Tryz.ntmps13
    go_wp2_with fail
    refine (word_any a w (by omega)).mono ?_
    rintro e w' ⟨rfl, rfl⟩
    rw [hA]
    go_wp2_with fail
    refine (word_any b w (by omega)).mono ?_
    rintro e w' ⟨rfl, rfl⟩
    rw [hB]
    go_wp2_with fail
    refine (word_any c w (by omega)).mono ?_
    rintro e w' ⟨rfl, rfl⟩
    rw [hC]
    go_wp2_with fail
    go_ret
    exact ⟨rfl, Mods.refl _ _⟩
  | true =>
  have WA := wordB_word hA
  have WB := wordB_word hB
  have WC := wordB_word hC
  have sa := WA.le
  have sb := WB.le
  have sc := WC.le
  cases two with
  | false =>
    have HT := Lib.hid (struck_text a b c 1 (Or.inl rfl))
    have hsz := struck_size a b c 1
    have sz : (struckT a b c 1).size ≤ 64 := by omega
    clear hsz
    go_enter Tryz.func13, Tryz.ntmps13
    go_wp2_with fail
    refine (word_any a w (by omega)).mono ?_
    rintro e w' ⟨rfl, rfl⟩
    rw [hA]
    go_wp2_with fail
    refine (word_any b w (by omega)).mono ?_
    rintro e w' ⟨rfl, rfl⟩
    rw [hB]
    go_wp2_with fail
    refine (word_any c w (by omega)).mono ?_
    rintro e w' ⟨rfl, rfl⟩
    rw [hC]
    clear hA hB hC
    go_wp2_with fail
    rw [show a ++ (⟨#[32]⟩ : ByteArray) ++ (⟨#[126]⟩ : ByteArray) ++ b ++ (⟨#[126]⟩ : ByteArray) ++ (⟨#[32]⟩ : ByteArray) ++ c = struckT a b c 1 from HT.out]
    refine (html_struck a b c 1 w WA WB WC (Or.inl rfl)).mono ?_
    rintro e w1 ⟨rfl, hm1⟩
    unfold struckW
    go_wp2_with fail
    refine (html_unstruck a b c 1 w1 WA WB WC (Or.inl rfl)).mono ?_
    rintro e w2 ⟨rfl, hm2⟩
    unfold paraW
    go_wp2_with fail
    go_ret
    exact ⟨by simp, hm1.trans hm2⟩
  | true =>
    have HT := Lib.hid (struck_text a b c 2 (Or.inr rfl))
    have hsz := struck_size a b c 2
    have sz : (struckT a b c 2).size ≤ 66 := by omega
    clear hsz
    go_enter Tryz.func13, Tryz.ntmps13
    go_wp2_with fail
    refine (word_any a w (by omega)).mono ?_
    rintro e w' ⟨rfl, rfl⟩
    rw [hA]
    go_wp2_with fail
    refine (word_any b w (by omega)).mono ?_
    rintro e w' ⟨rfl, rfl⟩
    rw [hB]
    go_wp2_with fail
    refine (word_any c w (by omega)).mono ?_
    rintro e w' ⟨rfl, rfl⟩
    rw [hC]
    clear hA hB hC
    go_wp2_with fail
    rw [show a ++ (⟨#[32]⟩ : ByteArray) ++ (⟨#[126, 126]⟩ : ByteArray) ++ b ++ (⟨#[126, 126]⟩ : ByteArray) ++ (⟨#[32]⟩ : ByteArray) ++ c = struckT a b c 2 from HT.out]
    refine (html_struck a b c 2 w WA WB WC (Or.inr rfl)).mono ?_
    rintro e w1 ⟨rfl, hm1⟩
    unfold struckW
    go_wp2_with fail
    refine (html_unstruck a b c 2 w1 WA WB WC (Or.inr rfl)).mono ?_
    rintro e w2 ⟨rfl, hm2⟩
    unfold paraW
    go_wp2_with fail
    go_ret
    exact ⟨by simp, hm1.trans hm2⟩
end Go.Proofs.YtdnlfdppjfjncaaGreatDoor.G
