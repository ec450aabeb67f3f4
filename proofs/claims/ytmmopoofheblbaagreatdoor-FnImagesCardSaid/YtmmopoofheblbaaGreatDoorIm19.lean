/- Some texts of one proof, put into one file: Pr1, TrP, ImgP, TrO, Ins, Inline3. -/
import Derived.Deep.RegionWith
import Derived.Test.YtmmopoofheblbaaGreatDoorIm4
import Derived.Test.YtmmopoofheblbaaGreatDoorIm5
import Derived.Test.YtmmopoofheblbaaGreatDoorIm7
/- What a block or an inline prints as HTML, whatever it is. -/
namespace Go.Proofs.YtmmopoofheblbaaGreatDoor
open Go Go.RowKit Go.Proofs

/-- Printed from the world w0 on, the value v of type T gives out. -/
def Prints (w0 : World) (T : Nat) (v : Value) (out : List UInt8) : Prop :=
  ∃ fn r, (∀ k w, (method (k + 2) T v "PrintHTML").run Tryz.prog w = .ok (fn, r) w) ∧ (∀ a c w, (callFunc fn #[a, c]).run Tryz.prog w = .ok (.enter fn #[a, c]) w) ∧
    ∀ (B b : Nat) (l : List UInt8) (w : World), Same w0 w → w0.heap.size ≤ B → B ≤ w.heap.size → Lib.IsBuffer 95 5 B b (Lib.byteCells l) w → l.length + out.length ≤ 10000000 →
      Calls Tryz.prog fn #[r, .pointer (some ⟨b, 0, none⟩)] w fun e w' => e = .returned (.tuple #[]) ∧ Wrote w w' B b (l ++ out)

theorem Prints.same {w0 w1 : World} {T : Nat} {v : Value} {out : List UInt8} (h : Prints w0 T v out) (hm : Same w0 w1) : Prints w1 T v out := by
  obtain ⟨fn, r, h1, h3, h2⟩ := h
  have hz := hm.size
  exact ⟨fn, r, h1, h3, fun B b l w hS hB hBw hb hl => h2 B b l w (hm.trans hS) (by omega) hBw hb hl⟩

/-- The same of a row of them. -/
inductive RowPrints (w0 : World) : List Value → List (List UInt8) → Prop
  | nil : RowPrints w0 [] []
  | cons {T : Nat} {v : Value} {xs : List Value} {o : List UInt8} {os : List (List UInt8)} (h : Prints w0 T v o) (hr : RowPrints w0 xs os) : RowPrints w0 (.iface T v :: xs) (o :: os)
theorem RowPrints.same {w0 w1 : World} {xs : List Value} {os : List (List UInt8)} (h : RowPrints w0 xs os) (hm : Same w0 w1) : RowPrints w1 xs os := by
  induction h with
  | nil => exact .nil
  | cons h _ ih => exact .cons (h.same hm) ih
theorem RowPrints.len {w0 : World} {xs : List Value} {os : List (List UInt8)} (h : RowPrints w0 xs os) : xs.length = os.length := by
  induction h with
  | nil => rfl
  | cons _ _ ih => simp [ih]
theorem RowPrints.get {w0 : World} {xs : List Value} {os : List (List UInt8)} (h : RowPrints w0 xs os) : ∀ (i : Nat), i < xs.length → ∃ T v o, xs[i]? = some (.iface T v) ∧ os[i]? = some o ∧ Prints w0 T v o := by
  induction h with
  | nil => intro i hi; exact absurd hi (Nat.not_lt_zero _)
  | @cons T v xs o os h hr ih =>
    intro i hi
    cases i with
    | zero => exact ⟨T, v, o, rfl, rfl, h⟩
    | succ i =>
      obtain ⟨T', v', o', h1, h2, h3⟩ := ih i (by simpa using hi)
      exact ⟨T', v', o', by simpa using h1, by simpa using h2, h3⟩
theorem flat_succ {os : List (List UInt8)} {i : Nat} {o : List UInt8} (h : os[i]? = some o) : (os.take (i + 1)).flatten = (os.take i).flatten ++ o := by
  rw [List.take_add_one, List.flatten_append, h]
  simp
theorem flat_le (os : List (List UInt8)) (i : Nat) : (os.take i).flatten.length ≤ os.flatten.length := by
  have := congrArg (fun l => l.flatten.length) (List.take_append_drop i os)
  simp only [List.flatten_append, List.length_append] at this
  omega

theorem Wrote.sameG {w0 w w' : World} {B b : Nat} {l : List UInt8} (hS : Same w0 w) (hB : w0.heap.size ≤ B) (h : Wrote w w' B b l) : Same w0 w' :=
  Mods.then hS (Below.mods (S := fun k => B ≤ k) h.below (fun k _ hk => hk)) (fun b hb hk => by omega)

set_option maxRecDepth 100000 in
set_option maxHeartbeats 4000000 in
theorem doc_prints (w0 : World) (rk n : Nat) (x y : Int) (m : Value) (v : Value) (xs : List Value) (os : List (List UInt8)) (hR : Blk w0 rk #[.int .i64 x, .int .i64 y, v, m] 111) (hown : w0.ownsRow 0 91 1 v n xs) (hn0 : 0 < n) (hn6 : n ≤ 1000000) (hx : RowPrints w0 xs os)
    (B b : Nat) (l : List UInt8) (w : World) (hS : Same w0 w) (hB : w0.heap.size ≤ B) (hBw : B ≤ w.heap.size) (h : Lib.IsBuffer 95 5 B b (Lib.byteCells l) w) (hl : l.length + os.flatten.length + 0 ≤ 10000000) :
    Calls Tryz.prog 303 #[.pointer (some ⟨rk, 0, none⟩), .pointer (some ⟨b, 0, none⟩)] w fun e w' => e = .returned (.tuple #[]) ∧ Wrote w w' B b (l ++ os.flatten) := by
  have hlen := hx.len
  have hxl := hown.1
  have hos : os.length = n := by omega
  obtain ⟨gl, lc, he, ⟨cur, hcur⟩, _, hc⟩ := ownsRow_form hown hn0
  subst he
  have hRw := hS.blk hR
  have c2 : w.cell? ⟨rk, 2, none⟩ = some (.slice (some ⟨gl, 0, none⟩) n lc) := hRw.cell 2
  go_enter Tryz.func303, Tryz.ntmps303
  go_wp2_with fail
  go_loopg [11] n (fun m v wr => ∃ i : Nat, v = .int .i64 i ∧ m = n - i ∧ i ≤ n ∧ Wrote w wr B b (l ++ (os.take i).flatten))
  case atStart => exact ⟨0, rfl, rfl, Nat.zero_le _, by simpa using h, Below.refl _ _, Lib.OthersKept.refl _ _ _⟩
  case round =>
    obtain ⟨i, rfl, rfl, hi, hW⟩ := hrel
    have hSr := Wrote.sameG hS hB hW
    have HW := Lib.hid hW
    clear hW c2
    by_cases hlt : i < n
    · have w1 : (i : Int) < n := by omega
      have w2 : (0 : Int) ≤ i := by omega
      have w3 : IntKind.i64.wrap ((i : Int) + 1) = (i : Int) + 1 := IntWalk.i64_in _ (by omega)
      obtain ⟨T, u, o, hu, ho, hpr⟩ := hx.get i (by omega)
      have hc1 := hc i _ hu
      have hc2 : wr.cell? ⟨gl, i, none⟩ = some (.iface T u) := (World.cell?_of_block (hSr.block gl (World.block_lt_of_cell? _ _ hc1) (fun x => x))).trans hc1
      obtain ⟨fn, r, hmeth, hent, hcall⟩ := hpr
      have HC := Lib.hid hcall
      clear hc1 hu hcall
      go_wp2_with fail
      refine (HC.out B b _ wr hSr hB (by have := HW.out.below.size; omega) HW.out.buf ?_).mono ?_
      · have h1 := flat_le os (i + 1)
        rw [flat_succ ho, List.length_append] at h1
        rw [List.length_append]
        omega
      · rintro e w5 ⟨rfl, hW5⟩
        go_wp2_with fail
        go_roundg (n - (i + 1))
        case measure => omega
        case rel => exact ⟨i + 1, by simp, rfl, by omega, by rw [flat_succ ho, ← List.append_assoc]; exact HW.out.trans hW5⟩
    · have hin : i = n := by omega
      subst hin
      have w1 : ¬ ((i : Int) < i) := by omega
      go_wp2_with fail
      go_end0
      refine ⟨rfl, ?_⟩
      have := HW.out
      rw [← hos, List.take_length] at this
      exact this

set_option maxRecDepth 100000 in
set_option maxHeartbeats 4000000 in
theorem text_prints (w0 : World) (rk n : Nat) (x y : Int) (m : Value) (v : Value) (xs : List Value) (os : List (List UInt8)) (hR : Blk w0 rk #[.int .i64 x, .int .i64 y, v, m] 135) (hown : w0.ownsRow 0 157 1 v n xs) (hn0 : 0 < n) (hn6 : n ≤ 1000000) (hx : RowPrints w0 xs os)
    (B b : Nat) (l : List UInt8) (w : World) (hS : Same w0 w) (hB : w0.heap.size ≤ B) (hBw : B ≤ w.heap.size) (h : Lib.IsBuffer 95 5 B b (Lib.byteCells l) w) (hl : l.length + os.flatten.length + 0 ≤ 10000000) :
    Calls Tryz.prog 326 #[.pointer (some ⟨rk, 0, none⟩), .pointer (some ⟨b, 0, none⟩)] w fun e w' => e = .returned (.tuple #[]) ∧ Wrote w w' B b (l ++ os.flatten) := by
  have hlen := hx.len
  have hxl := hown.1
  have hos : os.length = n := by omega
  obtain ⟨gl, lc, he, ⟨cur, hcur⟩, _, hc⟩ := ownsRow_form hown hn0
  subst he
  have hRw := hS.blk hR
  have c2 : w.cell? ⟨rk, 2, none⟩ = some (.slice (some ⟨gl, 0, none⟩) n lc) := hRw.cell 2
  go_enter Tryz.func326, Tryz.ntmps326
  go_wp2_with fail
  go_loopg [11] n (fun m v wr => ∃ i : Nat, v = .int .i64 i ∧ m = n - i ∧ i ≤ n ∧ Wrote w wr B b (l ++ (os.take i).flatten))
  case atStart => exact ⟨0, rfl, rfl, Nat.zero_le _, by simpa using h, Below.refl _ _, Lib.OthersKept.refl _ _ _⟩
  case round =>
    obtain ⟨i, rfl, rfl, hi, hW⟩ := hrel
    have hSr := Wrote.sameG hS hB hW
    have HW := Lib.hid hW
    clear hW c2
    by_cases hlt : i < n
    · have w1 : (i : Int) < n := by omega
      have w2 : (0 : Int) ≤ i := by omega
      have w3 : IntKind.i64.wrap ((i : Int) + 1) = (i : Int) + 1 := IntWalk.i64_in _ (by omega)
      obtain ⟨T, u, o, hu, ho, hpr⟩ := hx.get i (by omega)
      have hc1 := hc i _ hu
      have hc2 : wr.cell? ⟨gl, i, none⟩ = some (.iface T u) := (World.cell?_of_block (hSr.block gl (World.block_lt_of_cell? _ _ hc1) (fun x => x))).trans hc1
      obtain ⟨fn, r, hmeth, hent, hcall⟩ := hpr
      have HC := Lib.hid hcall
      clear hc1 hu hcall
      go_wp2_with fail
      refine (HC.out B b _ wr hSr hB (by have := HW.out.below.size; omega) HW.out.buf ?_).mono ?_
      · have h1 := flat_le os (i + 1)
        rw [flat_succ ho, List.length_append] at h1
        rw [List.length_append]
        omega
      · rintro e w5 ⟨rfl, hW5⟩
        go_wp2_with fail
        go_roundg (n - (i + 1))
        case measure => omega
        case rel => exact ⟨i + 1, by simp, rfl, by omega, by rw [flat_succ ho, ← List.append_assoc]; exact HW.out.trans hW5⟩
    · have hin : i = n := by omega
      subst hin
      have w1 : ¬ ((i : Int) < i) := by omega
      go_wp2_with fail
      go_end0
      refine ⟨rfl, ?_⟩
      have := HW.out
      rw [← hos, List.take_length] at this
      exact this

set_option maxRecDepth 100000 in
set_option maxHeartbeats 4000000 in
theorem quote_prints (w0 : World) (rk n : Nat) (x y : Int) (v : Value) (xs : List Value) (os : List (List UInt8)) (hR : Blk w0 rk #[.int .i64 x, .int .i64 y, v] 122) (hown : w0.ownsRow 0 91 1 v n xs) (hn0 : 0 < n) (hn6 : n ≤ 1000000) (hx : RowPrints w0 xs os)
    (B b : Nat) (l : List UInt8) (w : World) (hS : Same w0 w) (hB : w0.heap.size ≤ B) (hBw : B ≤ w.heap.size) (h : Lib.IsBuffer 95 5 B b (Lib.byteCells l) w) (hl : l.length + os.flatten.length + 27 ≤ 10000000) :
    Calls Tryz.prog 318 #[.pointer (some ⟨rk, 0, none⟩), .pointer (some ⟨b, 0, none⟩)] w fun e w' => e = .returned (.tuple #[]) ∧ Wrote w w' B b (l ++ [60, 98, 108, 111, 99, 107, 113, 117, 111, 116, 101, 62, 10] ++ os.flatten ++ [60, 47, 98, 108, 111, 99, 107, 113, 117, 111, 116, 101, 62, 10]) := by
  have hlen := hx.len
  have hxl := hown.1
  have hos : os.length = n := by omega
  obtain ⟨gl, lc, he, ⟨cur, hcur⟩, _, hc⟩ := ownsRow_form hown hn0
  subst he
  have hRw := hS.blk hR
  have c2 : w.cell? ⟨rk, 2, none⟩ = some (.slice (some ⟨gl, 0, none⟩) n lc) := hRw.cell 2
  go_enter Tryz.func318, Tryz.ntmps318
  go_wp2_with fail
  refine (write_string B b l ⟨#[60, 98, 108, 111, 99, 107, 113, 117, 111, 116, 101, 62, 10]⟩ w h hBw (by omega) (by decide)).mono ?_
  rintro e w1 ⟨rfl, h1⟩
  have hS1 := Wrote.sameG hS hB h1
  have hRw1 := hS1.blk hR
  have c3 : w1.cell? ⟨rk, 2, none⟩ = some (.slice (some ⟨gl, 0, none⟩) n lc) := hRw1.cell 2
  have h1' : Wrote w w1 B b (l ++ [60, 98, 108, 111, 99, 107, 113, 117, 111, 116, 101, 62, 10]) := h1
  have H1 := Lib.hid h1'
  clear h1 h1' c2
  go_wp2_with fail
  go_loopg [13] n (fun m v wr => ∃ i : Nat, v = .int .i64 i ∧ m = n - i ∧ i ≤ n ∧ Wrote w wr B b (l ++ [60, 98, 108, 111, 99, 107, 113, 117, 111, 116, 101, 62, 10] ++ (os.take i).flatten))
  case atStart => exact ⟨0, rfl, rfl, Nat.zero_le _, by simpa using H1.out⟩
  case round =>
    obtain ⟨i, rfl, rfl, hi, hW⟩ := hrel
    have hSr := Wrote.sameG hS hB hW
    have HW := Lib.hid hW
    clear hW c3
    by_cases hlt : i < n
    · have w1 : (i : Int) < n := by omega
      have w2 : (0 : Int) ≤ i := by omega
      have w3 : IntKind.i64.wrap ((i : Int) + 1) = (i : Int) + 1 := IntWalk.i64_in _ (by omega)
      obtain ⟨T, u, o, hu, ho, hpr⟩ := hx.get i (by omega)
      have hc1 := hc i _ hu
      have hc2 : wr.cell? ⟨gl, i, none⟩ = some (.iface T u) := (World.cell?_of_block (hSr.block gl (World.block_lt_of_cell? _ _ hc1) (fun x => x))).trans hc1
      obtain ⟨fn, r, hmeth, hent, hcall⟩ := hpr
      have HC := Lib.hid hcall
      clear hc1 hu hcall
      go_wp2_with fail
      refine (HC.out B b _ wr hSr hB (by have := HW.out.below.size; omega) HW.out.buf ?_).mono ?_
      · have h1 := flat_le os (i + 1)
        rw [flat_succ ho, List.length_append] at h1
        simp only [List.length_append, List.length_cons, List.length_nil]
        omega
      · rintro e w5 ⟨rfl, hW5⟩
        go_wp2_with fail
        go_roundg (n - (i + 1))
        case measure => omega
        case rel => exact ⟨i + 1, by simp, rfl, by omega, by rw [flat_succ ho, ← List.append_assoc]; exact HW.out.trans hW5⟩
    · have hin : i = n := by omega
      subst hin
      have w1 : ¬ ((i : Int) < i) := by omega
      have hW9 := HW.out
      rw [← hos, List.take_length] at hW9
      go_wp2_with fail
      refine (write_string B b _ ⟨#[60, 47, 98, 108, 111, 99, 107, 113, 117, 111, 116, 101, 62, 10]⟩ wr hW9.buf (by have := hW9.below.size; omega) ?_ (by decide)).mono ?_
      · simp only [List.length_append, List.length_cons, List.length_nil]
        omega
      · rintro e w6 ⟨rfl, h6⟩
        go_wp2_with fail
        go_end0
        exact ⟨rfl, hW9.trans h6⟩

set_option maxRecDepth 100000 in
set_option maxHeartbeats 4000000 in
theorem del_prints (w0 : World) (rk n : Nat) (TD : Nat) (m : Value) (v : Value) (xs : List Value) (os : List (List UInt8)) (hR : Blk w0 rk #[m, v] TD) (hown : w0.ownsRow 0 157 1 v n xs) (hn0 : 0 < n) (hn6 : n ≤ 1000000) (hx : RowPrints w0 xs os)
    (B b : Nat) (l : List UInt8) (w : World) (hS : Same w0 w) (hB : w0.heap.size ≤ B) (hBw : B ≤ w.heap.size) (h : Lib.IsBuffer 95 5 B b (Lib.byteCells l) w) (hl : l.length + os.flatten.length + 11 ≤ 10000000) :
    Calls Tryz.prog 366 #[.pointer (some ⟨rk, 0, none⟩), .pointer (some ⟨b, 0, none⟩)] w fun e w' => e = .returned (.tuple #[]) ∧ Wrote w w' B b (l ++ [60, 100, 101, 108, 62] ++ os.flatten ++ [60, 47, 100, 101, 108, 62]) := by
  have hlen := hx.len
  have hxl := hown.1
  have hos : os.length = n := by omega
  obtain ⟨gl, lc, he, ⟨cur, hcur⟩, _, hc⟩ := ownsRow_form hown hn0
  subst he
  have hRw := hS.blk hR
  have c2 : w.cell? ⟨rk, 1, none⟩ = some (.slice (some ⟨gl, 0, none⟩) n lc) := hRw.cell 1
  go_enter Tryz.func366, Tryz.ntmps366
  go_wp2_with fail
  refine (write_string B b l ⟨#[60, 100, 101, 108, 62]⟩ w h hBw (by omega) (by decide)).mono ?_
  rintro e w1 ⟨rfl, h1⟩
  have hS1 := Wrote.sameG hS hB h1
  have hRw1 := hS1.blk hR
  have c3 : w1.cell? ⟨rk, 1, none⟩ = some (.slice (some ⟨gl, 0, none⟩) n lc) := hRw1.cell 1
  have h1' : Wrote w w1 B b (l ++ [60, 100, 101, 108, 62]) := h1
  have H1 := Lib.hid h1'
  clear h1 h1' c2
  go_wp2_with fail
  go_loopg [13] n (fun m v wr => ∃ i : Nat, v = .int .i64 i ∧ m = n - i ∧ i ≤ n ∧ Wrote w wr B b (l ++ [60, 100, 101, 108, 62] ++ (os.take i).flatten))
  case atStart => exact ⟨0, rfl, rfl, Nat.zero_le _, by simpa using H1.out⟩
  case round =>
    obtain ⟨i, rfl, rfl, hi, hW⟩ := hrel
    have hSr := Wrote.sameG hS hB hW
    have HW := Lib.hid hW
    clear hW c3
    by_cases hlt : i < n
    · have w1 : (i : Int) < n := by omega
      have w2 : (0 : Int) ≤ i := by omega
      have w3 : IntKind.i64.wrap ((i : Int) + 1) = (i : Int) + 1 := IntWalk.i64_in _ (by omega)
      obtain ⟨T, u, o, hu, ho, hpr⟩ := hx.get i (by omega)
      have hc1 := hc i _ hu
      have hc2 : wr.cell? ⟨gl, i, none⟩ = some (.iface T u) := (World.cell?_of_block (hSr.block gl (World.block_lt_of_cell? _ _ hc1) (fun x => x))).trans hc1
      obtain ⟨fn, r, hmeth, hent, hcall⟩ := hpr
      have HC := Lib.hid hcall
      clear hc1 hu hcall
      go_wp2_with fail
      refine (HC.out B b _ wr hSr hB (by have := HW.out.below.size; omega) HW.out.buf ?_).mono ?_
      · have h1 := flat_le os (i + 1)
        rw [flat_succ ho, List.length_append] at h1
        simp only [List.length_append, List.length_cons, List.length_nil]
        omega
      · rintro e w5 ⟨rfl, hW5⟩
        go_wp2_with fail
        go_roundg (n - (i + 1))
        case measure => omega
        case rel => exact ⟨i + 1, by simp, rfl, by omega, by rw [flat_succ ho, ← List.append_assoc]; exact HW.out.trans hW5⟩
    · have hin : i = n := by omega
      subst hin
      have w1 : ¬ ((i : Int) < i) := by omega
      have hW9 := HW.out
      rw [← hos, List.take_length] at hW9
      go_wp2_with fail
      refine (write_string B b _ ⟨#[60, 47, 100, 101, 108, 62]⟩ wr hW9.buf (by have := hW9.below.size; omega) ?_ (by decide)).mono ?_
      · simp only [List.length_append, List.length_cons, List.length_nil]
        omega
      · rintro e w6 ⟨rfl, h6⟩
        go_wp2_with fail
        go_end0
        exact ⟨rfl, hW9.trans h6⟩

set_option maxHeartbeats 4000000 in
theorem para_prints (w0 : World) (pk tb n : Nat) (x y x' y' : Int) (v m : Value) (xs : List Value) (os : List (List UInt8)) (hP : Blk w0 pk #[.int .i64 x', .int .i64 y', .pointer (some ⟨tb, 0, none⟩)] 138)
    (hR : Blk w0 tb #[.int .i64 x, .int .i64 y, v, m] 135) (hown : w0.ownsRow 0 157 1 v n xs) (hn0 : 0 < n) (hn6 : n ≤ 1000000) (hx : RowPrints w0 xs os)
    (B b : Nat) (l : List UInt8) (w : World) (hS : Same w0 w) (hB : w0.heap.size ≤ B) (hBw : B ≤ w.heap.size) (h : Lib.IsBuffer 95 5 B b (Lib.byteCells l) w) (hl : l.length + os.flatten.length + 8 ≤ 10000000) :
    Calls Tryz.prog 328 #[.pointer (some ⟨pk, 0, none⟩), .pointer (some ⟨b, 0, none⟩)] w fun e w' => e = .returned (.tuple #[]) ∧ Wrote w w' B b (l ++ (pOpen ++ os.flatten ++ pClose)) := by
  go_enter Tryz.func328, Tryz.ntmps328
  go_wp2_with fail
  refine (write_string B b l ⟨#[60, 112, 62]⟩ w h hBw (by omega) (by decide)).mono ?_
  rintro e w1 ⟨rfl, h1⟩
  have hS1 := Wrote.sameG hS hB h1
  have hP1 := hS1.blk hP
  have c2 : w1.cell? ⟨pk, 2, none⟩ = some (.pointer (some ⟨tb, 0, none⟩)) := hP1.cell 2
  go_wp2_with fail
  refine (text_prints w0 tb n x y m v xs os hR hown hn0 hn6 hx B b (l ++ pOpen) w1 hS1 hB (by have := h1.below.size; omega) h1.buf ?_).mono ?_
  · have : pOpen.length = 3 := rfl
    rw [List.length_append]
    omega
  · rintro e w2 ⟨rfl, h2⟩
    have h3 := h1.trans h2
    go_wp2_with fail
    refine (write_string B b _ ⟨#[60, 47, 112, 62, 10]⟩ w2 h3.buf (by have := h3.below.size; omega) ?_ (by decide)).mono ?_
    · have : pOpen.length = 3 := rfl
      simp only [List.length_append]
      omega
    · rintro e w3 ⟨rfl, h4⟩
      go_wp2_with fail
      go_end0
      have h5 := h3.trans h4
      have e1 : l ++ (pOpen ++ os.flatten ++ pClose) = l ++ pOpen ++ os.flatten ++ (⟨#[60, 47, 112, 62, 10]⟩ : ByteArray).data.toList := by simp [pClose]
      rw [e1]
      exact ⟨rfl, h5⟩

theorem m_print_del (k : Nat) (a : Addr) (w : World) : (method (k + 1) 205 (.pointer (some a)) "PrintHTML").run Tryz.prog w = .ok (366, .pointer (some a)) w := by kernel_rfl
theorem m_print_quote (k : Nat) (a : Addr) (w : World) : (method (k + 1) 120 (.pointer (some a)) "PrintHTML").run Tryz.prog w = .ok (318, .pointer (some a)) w := by kernel_rfl

theorem Prints.doc {w0 : World} {rk n : Nat} {x y : Int} {m v : Value} {xs : List Value} {os : List (List UInt8)} (hR : Blk w0 rk #[.int .i64 x, .int .i64 y, v, m] 111) (hown : w0.ownsRow 0 91 1 v n xs) (hn0 : 0 < n) (hn6 : n ≤ 1000000) (hx : RowPrints w0 xs os) :
    Prints w0 68 (.pointer (some ⟨rk, 0, none⟩)) os.flatten :=
  ⟨303, .pointer (some ⟨rk, 0, none⟩), fun k w => m_print_doc (k + 1) _ w, fun a c w => by kernel_rfl, fun B b l w hS hB hBw hb hl => doc_prints w0 rk n x y m v xs os hR hown hn0 hn6 hx B b l w hS hB hBw hb (by omega)⟩
theorem Prints.quote {w0 : World} {rk n : Nat} {x y : Int} {v : Value} {xs : List Value} {os : List (List UInt8)} (hR : Blk w0 rk #[.int .i64 x, .int .i64 y, v] 122) (hown : w0.ownsRow 0 91 1 v n xs) (hn0 : 0 < n) (hn6 : n ≤ 1000000) (hx : RowPrints w0 xs os) :
    Prints w0 120 (.pointer (some ⟨rk, 0, none⟩)) ([60, 98, 108, 111, 99, 107, 113, 117, 111, 116, 101, 62, 10] ++ os.flatten ++ [60, 47, 98, 108, 111, 99, 107, 113, 117, 111, 116, 101, 62, 10]) :=
  ⟨318, .pointer (some ⟨rk, 0, none⟩), fun k w => m_print_quote (k + 1) _ w, fun a c w => by kernel_rfl, fun B b l w hS hB hBw hb hl => by
    have h := quote_prints w0 rk n x y v xs os hR hown hn0 hn6 hx B b l w hS hB hBw hb (by simp only [List.length_append, List.length_cons, List.length_nil] at hl; omega)
    simpa only [List.append_assoc] using h⟩
theorem Prints.del {w0 : World} {rk n TD : Nat} {m v : Value} {xs : List Value} {os : List (List UInt8)} (hR : Blk w0 rk #[m, v] TD) (hown : w0.ownsRow 0 157 1 v n xs) (hn0 : 0 < n) (hn6 : n ≤ 1000000) (hx : RowPrints w0 xs os) :
    Prints w0 205 (.pointer (some ⟨rk, 0, none⟩)) ([60, 100, 101, 108, 62] ++ os.flatten ++ [60, 47, 100, 101, 108, 62]) :=
  ⟨366, .pointer (some ⟨rk, 0, none⟩), fun k w => m_print_del (k + 1) _ w, fun a c w => by kernel_rfl, fun B b l w hS hB hBw hb hl => by
    have h := del_prints w0 rk n TD m v xs os hR hown hn0 hn6 hx B b l w hS hB hBw hb (by simp only [List.length_append, List.length_cons, List.length_nil] at hl; omega)
    simpa only [List.append_assoc] using h⟩
theorem Prints.para {w0 : World} {pk tb n : Nat} {x y x' y' : Int} {v m : Value} {xs : List Value} {os : List (List UInt8)} (hP : Blk w0 pk #[.int .i64 x', .int .i64 y', .pointer (some ⟨tb, 0, none⟩)] 138)
    (hR : Blk w0 tb #[.int .i64 x, .int .i64 y, v, m] 135) (hown : w0.ownsRow 0 157 1 v n xs) (hn0 : 0 < n) (hn6 : n ≤ 1000000) (hx : RowPrints w0 xs os) :
    Prints w0 136 (.pointer (some ⟨pk, 0, none⟩)) (pOpen ++ os.flatten ++ pClose) :=
  ⟨328, .pointer (some ⟨pk, 0, none⟩), fun k w => m_print_para (k + 1) _ w, fun a c w => by kernel_rfl, fun B b l w hS hB hBw hb hl => para_prints w0 pk tb n x y x' y' v m xs os hP hR hown hn0 hn6 hx B b l w hS hB hBw hb (by
    have h1 : pOpen.length = 3 := rfl
    have h2 : pClose.length = 5 := rfl
    simp only [List.length_append] at hl
    omega)⟩
theorem Prints.plain {w0 : World} {xb : Nat} {t : ByteArray} (hX : Blk w0 xb #[.string t] 221) (ht : t.size ≤ 1000000) : Prints w0 224 (.pointer (some ⟨xb, 0, none⟩)) (escN t t.size) :=
  ⟨390, .pointer (some ⟨xb, 0, none⟩), fun k w => m_print_plain (k + 1) _ w, fun a c w => by kernel_rfl, fun B b l w hS hB hBw hb hl => plain_print B b xb l t w hb hBw (by omega) ht ((hS.blk hX).cell 0) (by have := hX.lt; omega)⟩
theorem Prints.esc {w0 : World} {xb : Nat} {t : ByteArray} (hX : Blk w0 xb #[.string t] 223) (ht : t.size ≤ 1000000) : Prints w0 220 (.pointer (some ⟨xb, 0, none⟩)) (escN t t.size) :=
  ⟨390, .pointer (some ⟨xb, 0, none⟩), fun k w => m_print_esc k _ w, fun a c w => by kernel_rfl, fun B b l w hS hB hBw hb hl => plain_print B b xb l t w hb hBw (by omega) ht ((hS.blk hX).cell 0) (by have := hX.lt; omega)⟩

set_option maxHeartbeats 4000000 in
theorem toHTML_gen (w0 : World) (T : Nat) (v : Value) (out : List UInt8) (h : Prints w0 T v out) (hl : out.length ≤ 10000000) :
    Calls Tryz.prog 45 #[.iface T v] w0 fun e w' => e = .returned (.string ⟨out.toArray⟩) ∧ Same w0 w' := by
  obtain ⟨fn, r, hmeth, hent, hcall⟩ := h
  have HC := Lib.hid hcall
  clear hcall
  go_enter Tryz.func45, Tryz.ntmps45
  go_wp2_with fail
  have hS : Same w0 (w0.alloc (.cells #[.slice none 0 0, .int .i64 0, .int .i8 0] 95)) := (Mods.refl _ w0).alloc _
  have hF := Lib.fresh_isBuffer 95 5 w0
  generalize hW : (w0.alloc _ : World) = W at *
  refine (HC.out w0.heap.size w0.heap.size [] W hS (Nat.le_refl _) hS.size hF (by simpa using hl)).mono ?_
  rintro e w1 ⟨rfl, h1⟩
  have hS1 := Wrote.sameG hS (Nat.le_refl _) h1
  go_wp2_with fail
  refine (Tryz.Buffer_String w0.heap.size w0.heap.size _ w1 h1.buf).mono ?_
  rintro e w2 ⟨rfl, k, rfl⟩
  go_wp2_with fail
  go_ret
  exact ⟨rfl, hS1.drewN k⟩
end Go.Proofs.YtmmopoofheblbaaGreatDoor

/- What an inline prints as text (within an image's description). -/
namespace Go.Proofs.YtmmopoofheblbaaGreatDoor
open Go Go.RowKit Go.Proofs

/-- Printed as text from the world w0 on, the value v of type T gives out. -/
def PrintsT (w0 : World) (T : Nat) (v : Value) (out : List UInt8) : Prop :=
  ∃ fn r, (∀ k w, (method (k + 2) T v "PrintText").run Tryz.prog w = .ok (fn, r) w) ∧ (∀ a c w, (callFunc fn #[a, c]).run Tryz.prog w = .ok (.enter fn #[a, c]) w) ∧
    ∀ (B b : Nat) (l : List UInt8) (w : World), Same w0 w → w0.heap.size ≤ B → B ≤ w.heap.size → Lib.IsBuffer 95 5 B b (Lib.byteCells l) w → l.length + out.length ≤ 10000000 →
      Calls Tryz.prog fn #[r, .pointer (some ⟨b, 0, none⟩)] w fun e w' => e = .returned (.tuple #[]) ∧ Wrote w w' B b (l ++ out)

theorem PrintsT.same {w0 w1 : World} {T : Nat} {v : Value} {out : List UInt8} (h : PrintsT w0 T v out) (hm : Same w0 w1) : PrintsT w1 T v out := by
  obtain ⟨fn, r, h1, h3, h2⟩ := h
  have hz := hm.size
  exact ⟨fn, r, h1, h3, fun B b l w hS hB hBw hb hl => h2 B b l w (hm.trans hS) (by omega) hBw hb hl⟩

inductive RowPrintsT (w0 : World) : List Value → List (List UInt8) → Prop
  | nil : RowPrintsT w0 [] []
  | cons {T : Nat} {v : Value} {xs : List Value} {o : List UInt8} {os : List (List UInt8)} (h : PrintsT w0 T v o) (hr : RowPrintsT w0 xs os) : RowPrintsT w0 (.iface T v :: xs) (o :: os)
theorem RowPrintsT.same {w0 w1 : World} {xs : List Value} {os : List (List UInt8)} (h : RowPrintsT w0 xs os) (hm : Same w0 w1) : RowPrintsT w1 xs os := by
  induction h with
  | nil => exact .nil
  | cons h _ ih => exact .cons (h.same hm) ih
theorem RowPrintsT.len {w0 : World} {xs : List Value} {os : List (List UInt8)} (h : RowPrintsT w0 xs os) : xs.length = os.length := by
  induction h with
  | nil => rfl
  | cons _ _ ih => simp [ih]
theorem RowPrintsT.get {w0 : World} {xs : List Value} {os : List (List UInt8)} (h : RowPrintsT w0 xs os) : ∀ (i : Nat), i < xs.length → ∃ T v o, xs[i]? = some (.iface T v) ∧ os[i]? = some o ∧ PrintsT w0 T v o := by
  induction h with
  | nil => intro i hi; exact absurd hi (Nat.not_lt_zero _)
  | @cons T v xs o os h hr ih =>
    intro i hi
    cases i with
    | zero => exact ⟨T, v, o, rfl, rfl, h⟩
    | succ i =>
      obtain ⟨T', v', o', h1, h2, h3⟩ := ih i (by simpa using hi)
      exact ⟨T', v', o', by simpa using h1, by simpa using h2, h3⟩

theorem plain_text (B b xb : Nat) (l : List UInt8) (t : ByteArray) (w : World) (h : Lib.IsBuffer 95 5 B b (Lib.byteCells l) w) (hB : B ≤ w.heap.size) (hl : l.length ≤ 10000000) (ht : t.size ≤ 1000000) (hX : w.cell? ⟨xb, 0, none⟩ = some (.string t)) :
    Calls Tryz.prog 391 #[.pointer (some ⟨xb, 0, none⟩), .pointer (some ⟨b, 0, none⟩)] w fun e w' => e = .returned (.tuple #[]) ∧ Wrote w w' B b (l ++ escN t t.size) := by
  go_enter Tryz.func391, Tryz.ntmps391
  go_wp2_with fail
  have hbl := h.lt
  have hd : Wrote w w.drew B b l := ⟨h, ⟨rfl, rfl, rfl, Nat.le_refl _, fun _ _ => rfl⟩, (Lib.OthersKept.refl _ _ w).drew⟩
  have h0 : Wrote w (w.drew.alloc (.cells escCells 9)) B b l := Wrote.alloc hd hB _
  have hX0 : w.drew.cell? ⟨xb, 0, none⟩ = some (.string t) := hX
  have hX1 : (w.drew.alloc (.cells escCells 9)).cell? ⟨xb, 0, none⟩ = some (.string t) := by
    rw [← hX0]; exact World.cell?_of_block (Below.heap_alloc _ _ _ (World.block_lt_of_cell? _ _ hX0))
  have hK : Blk (w.drew.alloc (.cells escCells 9)) w.heap.size escCells 9 := Blk.newAt (w := w.drew) _ _ rfl
  have HW := esc_write B b w.heap.size l t _ h0.buf (Nat.le_trans hB h0.below.size) hl ht hK (by omega)
  generalize hY : (w.drew.alloc (.cells escCells 9) : World) = Y at *
  go_region_with (first
    | (go_at_call 333; refine (htmlEscaper_at w.drew w.heap.size rfl).mono ?_; rintro e w1 ⟨rfl, hw1⟩; rw [hY] at hw1; subst hw1)
    | (go_at_call 313; refine HW.mono ?_; rintro e w2 ⟨rfl, h2⟩))
  all_goals
    go_wp2_with fail
    go_end0
    exact ⟨rfl, h0.trans h2⟩

theorem m_text_plain (k : Nat) (a : Addr) (w : World) : (method (k + 1) 224 (.pointer (some a)) "PrintText").run Tryz.prog w = .ok (391, .pointer (some a)) w := by kernel_rfl
theorem m_text_image (k : Nat) (a : Addr) (w : World) : (method (k + 1) 210 (.pointer (some a)) "PrintText").run Tryz.prog w = .ok (375, .pointer (some a)) w := by kernel_rfl
theorem PrintsT.plain {w0 : World} {xb T : Nat} {t : ByteArray} {cs : List Value} (hX : Blk w0 xb (.string t :: cs).toArray T) (ht : t.size ≤ 1000000) : PrintsT w0 224 (.pointer (some ⟨xb, 0, none⟩)) (escN t t.size) :=
  ⟨391, .pointer (some ⟨xb, 0, none⟩), fun k w => m_text_plain (k + 1) _ w, fun a c w => by kernel_rfl, fun B b l w hS hB hBw hb hl => plain_text B b xb l t w hb hBw (by omega) ht (by rw [(hS.blk hX).cell]; rfl)⟩

set_option maxRecDepth 100000 in
set_option maxHeartbeats 4000000 in
theorem image_text (w0 : World) (rk n TD : Nat) (v : Value) (cs : List Value) (xs : List Value) (os : List (List UInt8)) (hR : Blk w0 rk (v :: cs).toArray TD) (hown : w0.ownsRow 0 157 1 v n xs) (hn0 : 0 < n) (hn6 : n ≤ 1000000) (hx : RowPrintsT w0 xs os)
    (B b : Nat) (l : List UInt8) (w : World) (hS : Same w0 w) (hB : w0.heap.size ≤ B) (hBw : B ≤ w.heap.size) (h : Lib.IsBuffer 95 5 B b (Lib.byteCells l) w) (hl : l.length + os.flatten.length ≤ 10000000) :
    Calls Tryz.prog 375 #[.pointer (some ⟨rk, 0, none⟩), .pointer (some ⟨b, 0, none⟩)] w fun e w' => e = .returned (.tuple #[]) ∧ Wrote w w' B b (l ++ os.flatten) := by
  have hlen := hx.len
  have hxl := hown.1
  have hos : os.length = n := by omega
  obtain ⟨gl, lc, he, ⟨cur, hcur⟩, _, hc⟩ := ownsRow_form hown hn0
  subst he
  have c2 : w.cell? ⟨rk, 0, none⟩ = some (.slice (some ⟨gl, 0, none⟩) n lc) := by rw [(hS.blk hR).cell]; rfl
  clear hR
  go_enter Tryz.func375, Tryz.ntmps375
  go_wp2_with fail
  go_loopg [11] n (fun m v wr => ∃ i : Nat, v = .int .i64 i ∧ m = n - i ∧ i ≤ n ∧ Wrote w wr B b (l ++ (os.take i).flatten))
  case atStart => exact ⟨0, rfl, rfl, Nat.zero_le _, by simpa using h, Below.refl _ _, Lib.OthersKept.refl _ _ _⟩
  case round =>
    obtain ⟨i, rfl, rfl, hi, hW⟩ := hrel
    have hSr := Wrote.sameG hS hB hW
    have HW := Lib.hid hW
    clear hW c2
    by_cases hlt : i < n
    · have w1 : (i : Int) < n := by omega
      have w2 : (0 : Int) ≤ i := by omega
      have w3 : IntKind.i64.wrap ((i : Int) + 1) = (i : Int) + 1 := IntWalk.i64_in _ (by omega)
      obtain ⟨T, u, o, hu, ho, hpr⟩ := hx.get i (by omega)
      have hc1 := hc i _ hu
      have hc2 : wr.cell? ⟨gl, i, none⟩ = some (.iface T u) := (World.cell?_of_block (hSr.block gl (World.block_lt_of_cell? _ _ hc1) (fun x => x))).trans hc1
      obtain ⟨fn, r, hmeth, hent, hcall⟩ := hpr
      have HC := Lib.hid hcall
      clear hc1 hu hcall
      go_wp2_with fail
      refine (HC.out B b _ wr hSr hB (by have := HW.out.below.size; omega) HW.out.buf ?_).mono ?_
      · have h1 := flat_le os (i + 1)
        rw [flat_succ ho, List.length_append] at h1
        rw [List.length_append]
        omega
      · rintro e w5 ⟨rfl, hW5⟩
        go_wp2_with fail
        go_roundg (n - (i + 1))
        case measure => omega
        case rel => exact ⟨i + 1, by simp, rfl, by omega, by rw [flat_succ ho, ← List.append_assoc]; exact HW.out.trans hW5⟩
    · have hin : i = n := by omega
      subst hin
      have w1 : ¬ ((i : Int) < i) := by omega
      go_wp2_with fail
      go_end0
      refine ⟨rfl, ?_⟩
      have := HW.out
      rw [← hos, List.take_length] at this
      exact this

theorem PrintsT.image {w0 : World} {rk n TD : Nat} {v : Value} {cs xs : List Value} {os : List (List UInt8)} (hR : Blk w0 rk (v :: cs).toArray TD) (hown : w0.ownsRow 0 157 1 v n xs) (hn0 : 0 < n) (hn6 : n ≤ 1000000) (hx : RowPrintsT w0 xs os) :
    PrintsT w0 210 (.pointer (some ⟨rk, 0, none⟩)) os.flatten :=
  ⟨375, .pointer (some ⟨rk, 0, none⟩), fun k w => m_text_image (k + 1) _ w, fun a c w => by kernel_rfl, fun B b l w hS hB hBw hb hl => image_text w0 rk n TD v cs xs os hR hown hn0 hn6 hx B b l w hS hB hBw hb (by omega)⟩

/-- The length and the bytes of a buffer. -/
theorem buf_len (B b : Nat) (l : List UInt8) (w : World) (h : Lib.IsBuffer 95 5 B b (Lib.byteCells l) w) (hBw : B ≤ w.heap.size) : Calls Tryz.prog 314 #[.pointer (some ⟨b, 0, none⟩)] w fun e w' => e = .returned (.int .i64 l.length) ∧ Wrote w w' B b l := by
  refine (Tryz.Buffer_Len B b _ w h).mono ?_
  rintro e w' ⟨h1, n, rfl⟩
  have h2 : (Lib.byteCells l).length = l.length := by simp [Lib.byteCells]
  rw [h2] at h1
  exact ⟨h1, Wrote.drewN ⟨h, Below.refl _ _, Lib.OthersKept.refl _ _ _⟩ n⟩

set_option maxHeartbeats 4000000 in
theorem buf_bytes (B b : Nat) (l : List UInt8) (w : World) (h : Lib.IsBuffer 95 5 B b (Lib.byteCells l) w) (hl0 : l ≠ []) :
    Calls Tryz.prog 332 #[.pointer (some ⟨b, 0, none⟩)] w fun e w' => (∃ g cap, e = .returned (.slice (some ⟨g, 0, none⟩) l.length cap) ∧ ∀ (i : Nat) (c : UInt8), l[i]? = some c → w'.cell? ⟨g, i, none⟩ = some (.int .u8 (c.toNat : Int))) ∧ Wrote w w' B b l := by
  obtain ⟨hBb, v, lr, hb, hrow, hne⟩ := id h
  have hlen : (Lib.byteCells l).length = l.length := by simp [Lib.byteCells]
  rw [hlen] at hrow
  have hl1 : 0 < l.length := List.length_pos_iff.2 hl0
  rcases hrow.2 with ⟨h1, _⟩ | ⟨g, cap, cur, rfl, hBg, hg, hc, hm, hs, ht⟩
  · omega
  have c0 : w.cell? ⟨b, 0, none⟩ = some (.slice (some ⟨g, 0, none⟩) l.length cap) := (show Blk w b _ _ from hb).cell 0
  have c1 : w.cell? ⟨b, 1, none⟩ = some (.int .i64 0) := (show Blk w b _ _ from hb).cell 1
  have hcell : ∀ (i : Nat) (c : UInt8), l[i]? = some c → w.cell? ⟨g, i, none⟩ = some (.int .u8 (c.toNat : Int)) := by
    intro i c hi
    have hil := (List.getElem?_eq_some_iff.1 hi).1
    rw [(show Blk w g cur _ from hg).cell]
    have h2 : (cur.toList.take (l.length * 1))[i]? = some (.int .u8 (c.toNat : Int)) := by
      rw [ht]
      simp [Lib.byteCells, hi]
    rw [List.getElem?_take_of_lt (by omega)] at h2
    simpa using h2
  have HW : Hid (∀ k, Wrote w (w.drewN k) B b l) := Lib.hid (fun k => Wrote.drewN ⟨h, Below.refl _ _, Lib.OthersKept.refl _ _ _⟩ k)
  have HC : Hid (∀ k (i : Nat) (c : UInt8), l[i]? = some c → (w.drewN k).cell? ⟨g, i, none⟩ = some (.int .u8 (c.toNat : Int))) := Lib.hid (fun k i c hi => by rw [← hcell i c hi]; rfl)
  have v1 : (0 : Int) ≤ l.length := by omega
  have v2 : (l.length : Int) ≤ cap := by omega
  clear hb hrow hne hg ht h hcell
  go_enter Tryz.func332, Tryz.ntmps332
  go_wp2_with fail
  go_quiet (fail)
  go_wp2_with fail
  go_ret
  exact ⟨⟨g, cap, rfl, HC.out _⟩, HW.out _⟩
end Go.Proofs.YtmmopoofheblbaaGreatDoor

/- An image to HTML. -/
namespace Go.Proofs.YtmmopoofheblbaaGreatDoor
open Go Go.RowKit Go.Proofs Go.Great

def imgA : List UInt8 := [60, 105, 109, 103, 32, 115, 114, 99, 61, 34]
def altA : List UInt8 := [32, 97, 108, 116, 61, 34]
def imgO (u : ByteArray) (alt : List UInt8) : List UInt8 := imgA ++ lkN linkTab u u.size ++ [34] ++ altA ++ alt ++ [34] ++ [32, 47, 62]

def UrlTab (w : World) (xb : Nat) (u : ByteArray) (T : Tab) (n : Nat) (e : Ending) (V' : World) : Prop :=
  ∃ K, e = .returned (.slice (some ⟨K, 0, none⟩) n n) ∧ Same w V' ∧ Blk V' K (tabCells T) 9 ∧ V'.cell? ⟨xb, 1, none⟩ = some (.string u)
def UrlRep (w : World) (xb : Nat) (u R : ByteArray) (e : Ending) (V' : World) : Prop :=
  e = .returned (.string R) ∧ Same w V' ∧ V'.cell? ⟨xb, 1, none⟩ = some (.string u)

set_option maxRecDepth 100000 in
set_option maxHeartbeats 8000000 in
theorem image_html (w0 : World) (rk n TD : Nat) (v : Value) (u : ByteArray) (tc cr : Value) (xs : List Value) (os : List (List UInt8)) (hR : Blk w0 rk #[v, .string u, .string ⟨#[]⟩, tc, cr] TD) (hown : w0.ownsRow 0 157 1 v n xs) (hn0 : 0 < n) (hn6 : n ≤ 1000000) (hx : RowPrintsT w0 xs os)
    (h10 : ∀ c, c ∈ os.flatten → c ≠ 10) (hu : u.size ≤ 100000)
    (B b : Nat) (l : List UInt8) (w : World) (hS : Same w0 w) (hB : w0.heap.size ≤ B) (hBw : B ≤ w.heap.size) (h : Lib.IsBuffer 95 5 B b (Lib.byteCells l) w) (hl : l.length + (imgO u os.flatten).length ≤ 10000000) :
    Calls Tryz.prog 374 #[.pointer (some ⟨rk, 0, none⟩), .pointer (some ⟨b, 0, none⟩)] w fun e w' => e = .returned (.tuple #[]) ∧ Wrote w w' B b (l ++ imgO u os.flatten) := by
  have hlen := hx.len
  have hxl := hown.1
  have hos : os.length = n := by omega
  obtain ⟨gl, lc, he, ⟨cur, hcur⟩, _, hc⟩ := ownsRow_form hown hn0
  subst he
  have hRw := hS.blk hR
  have hrkB : rk < B := by have := hR.lt; omega
  obtain ⟨N, HN⟩ : ∃ N, Hid (N = 2 * linkTab.length) := ⟨_, Lib.hid rfl⟩
  obtain ⟨R1, HR1⟩ : ∃ R, Hid (R = (⟨(lkN linkTab u u.size).toArray⟩ : ByteArray)) := ⟨_, Lib.hid rfl⟩
  have s1 : R1.size ≤ 600000 := by
    have := lkN_len linkTab_ok u u.size (Nat.le_refl _)
    rw [HR1.out]
    show (lkN linkTab u u.size).length ≤ 600000
    omega
  have hll : l.length + R1.size + os.flatten.length + 21 ≤ 10000000 := by
    have e1 : R1.size = (lkN linkTab u u.size).length := by rw [HR1.out]; rfl
    simp only [imgO, imgA, altA, List.length_append, List.length_cons, List.length_nil] at hl
    omega
  have cc : ∀ V, Same w V → V.cell? ⟨rk, 1, none⟩ = some (.string u) := fun V hV => (hV.blk hRw).cell 1
  have HC := Lib.hid cc
  have C1 : ∀ V, Same w V → Calls Tryz.prog 308 #[] V (UrlTab w rk u linkTab N) := fun V hV =>
    (linkEscaper_at V).mono fun e V' ⟨h1, h2⟩ => by
      subst h2
      have hS : Same w (V.alloc (.cells (tabCells linkTab) 9)) := hV.alloc _
      exact ⟨V.heap.size, by rw [h1, HN.out], hS, Blk.newAt _ _ rfl, HC.out _ hS⟩
  have CR : ∀ V K, Same w V → Blk V K (tabCells linkTab) 9 → Calls Tryz.prog 309 #[.slice (some ⟨K, 0, none⟩) N N, .string u] V (UrlRep w rk u R1) := fun V K hV hK =>
    (pairs_replace linkTab linkTab_ok K N HN.out u V (by omega) hK).mono fun e V' ⟨h1, h2⟩ => ⟨by rw [h1, HR1.out], hV.trans h2, HC.out _ (hV.trans h2)⟩
  have C5 : ∀ V, Same w V → Calls Tryz.prog 307 #[.pointer (some ⟨b, 0, none⟩), .string (((⟨#[60, 105, 109, 103, 32, 115, 114, 99, 61, 34]⟩ : ByteArray) ++ R1) ++ (⟨#[34]⟩ : ByteArray))] V
      fun e V' => (∃ n : Int, e = .returned (.tuple #[.int .i64 n, .nilIface])) ∧ Wrote w V' B b (l ++ (imgA ++ lkN linkTab u u.size ++ [34])) ∧ V'.cell? ⟨rk, 1, none⟩ = some (.string u) := fun V hV => by
    have hW : Wrote w V B b l := Wrote.keep ⟨h, Below.refl _ _, Lib.OthersKept.refl _ _ _⟩ hBw hV
    have hz := hV.size
    refine (write_string B b l _ V hW.buf (by omega) (by omega) ?_).mono ?_
    · simp only [ByteArray.size_append]
      show 10 + R1.size + 1 ≤ 100000000
      omega
    · rintro e V' ⟨rfl, h2⟩
      have e2 : (((⟨#[60, 105, 109, 103, 32, 115, 114, 99, 61, 34]⟩ : ByteArray) ++ R1) ++ (⟨#[34]⟩ : ByteArray)).data.toList = imgA ++ lkN linkTab u u.size ++ [34] := by
        rw [HR1.out]
        simp [imgA]
      rw [e2] at h2
      have h3 := hW.trans h2
      exact ⟨⟨_, rfl⟩, h3, (World.cell?_of_block (h3.below.block rk hrkB)).trans (hRw.cell 1)⟩
  have f7 : ¬ (9223372036854775807 < 10 + R1.size) := by omega
  have f8 : ¬ (9223372036854775807 < 10 + R1.size + 1) := by omega
  have c1 := cc w (Mods.refl _ _)
  have d1 := cc w.drew ((Mods.refl _ _).drew)
  have HRb := Lib.hid hR
  clear cc hRw hR
  go_enter Tryz.func374, Tryz.ntmps374
  go_wp2_with fail
  go_region_held3 (fun w' => w'.cell? ⟨rk, 1, none⟩ = some (.string u)) (first | exact (by assumption))
    (first
      | (go_at_call 308; refine (C1 _ (by repeat (first | assumption | exact Mods.refl _ _ | apply Mods.drew))).mono ?_; rintro e w1 ⟨K1, rfl, hS1, hK1, x1⟩)
      | (go_at_call 309; refine (CR _ _ (by assumption) (by assumption)).mono ?_; rintro e w2 ⟨rfl, hS2, x1⟩)
      | (go_at_call 307; refine (C5 _ (by assumption)).mono ?_; rintro e w5 ⟨⟨n5, rfl⟩, hW5, x1⟩))
  all_goals
    obtain ⟨l1, HL1⟩ : ∃ l1, Hid (l1 = l ++ (imgA ++ lkN linkTab u u.size ++ [34])) := ⟨_, Lib.hid rfl⟩
    rw [← HL1.out] at hW5
    have hl1 : l1.length ≤ l.length + R1.size + 11 := by
      have e1 : R1.size = (lkN linkTab u u.size).length := by rw [HR1.out]; rfl
      rw [HL1.out]
      simp only [imgA, List.length_append, List.length_cons, List.length_nil]
      omega
    have HW5 := Lib.hid hW5
    clear hW5 c1 d1 x1 C1 CR C5
    go_wp2_with fail
    refine (write_string B b l1 ⟨#[32, 97, 108, 116, 61, 34]⟩ w5 HW5.out.buf (by have := HW5.out.below.size; omega) (by omega) (by decide)).mono ?_
    rintro e w6 ⟨rfl, h6⟩
    have h6' : Wrote w w6 B b (l1 ++ altA) := HW5.out.trans h6
    have hz6 := h6'.below.size
    have HW6 := Lib.hid h6'
    have hla : (l1 ++ altA).length = l1.length + 6 := by rw [List.length_append]; rfl
    clear h6 h6'
    go_wp2_with fail
    refine (buf_len B b (l1 ++ altA) w6 HW6.out.buf (by omega)).mono ?_
    rintro e w7 ⟨rfl, h7⟩
    have h7' : Wrote w w7 B b (l1 ++ altA) := HW6.out.trans h7
    have hS7 := Wrote.sameG hS hB h7'
    have c3 : w7.cell? ⟨rk, 0, none⟩ = some (.slice (some ⟨gl, 0, none⟩) n lc) := (hS7.blk HRb.out).cell 0
    have HW7 := Lib.hid h7'
    clear h7 h7'
    go_wp2_with fail
    go_loopg [6, 27] n (fun m v6 v27 wr => ∃ i : Nat, v27 = .int .i64 i ∧ m = n - i ∧ i ≤ n ∧ Wrote w wr B b (l1 ++ altA ++ (os.take i).flatten))
    case atStart => exact ⟨0, rfl, rfl, Nat.zero_le _, by simpa using HW7.out⟩
    case round =>
      obtain ⟨i, rfl, rfl, hi, hW⟩ := hrel
      have hSr := Wrote.sameG hS hB hW
      have HW := Lib.hid hW
      clear hW c3
      by_cases hlt : i < n
      · have w1 : (i : Int) < n := by omega
        have w2 : (0 : Int) ≤ i := by omega
        have w3 : IntKind.i64.wrap ((i : Int) + 1) = (i : Int) + 1 := IntWalk.i64_in _ (by omega)
        obtain ⟨T, y, o, hy, ho, hpr⟩ := hx.get i (by omega)
        have hc1 := hc i _ hy
        have hc2 : wr.cell? ⟨gl, i, none⟩ = some (.iface T y) := (World.cell?_of_block (hSr.block gl (World.block_lt_of_cell? _ _ hc1) (fun x => x))).trans hc1
        obtain ⟨fn, r, hmeth, hent, hcall⟩ := hpr
        have HCL := Lib.hid hcall
        clear hc1 hy hcall
        go_wp2_with fail
        refine (HCL.out B b _ wr hSr hB (by have := HW.out.below.size; omega) HW.out.buf ?_).mono ?_
        · have h1 := flat_le os (i + 1)
          rw [flat_succ ho, List.length_append] at h1
          rw [List.length_append, hla]
          omega
        · rintro e w8 ⟨rfl, hW8⟩
          go_wp2_with fail
          go_roundg (n - (i + 1))
          case measure => omega
          case rel => exact ⟨i + 1, by simp, rfl, by omega, by rw [flat_succ ho, ← List.append_assoc]; exact HW.out.trans hW8⟩
      · have hin : i = n := by omega
        subst hin
        have w1 : ¬ ((i : Int) < i) := by omega
        have hW9 := HW.out
        rw [← hos, List.take_length] at hW9
        have hz9 := hW9.below.size
        obtain ⟨l2, HL2⟩ : ∃ l2, Hid (l2 = l1 ++ altA ++ os.flatten) := ⟨_, Lib.hid rfl⟩
        rw [← HL2.out] at hW9
        have hl2 : l2.length = l1.length + 6 + os.flatten.length := by rw [HL2.out, List.length_append, hla]
        have HW9 := Lib.hid hW9
        clear hW9
        go_wp2_with fail
        refine (buf_bytes B b l2 wr HW9.out.buf (fun e => by rw [e] at hl2; simp only [List.length_nil] at hl2; omega)).mono ?_
        rintro e w8 ⟨⟨g, cap, rfl, hcell⟩, h8⟩
        have h8' : Wrote w w8 B b l2 := HW9.out.trans h8
        have HW8 := Lib.hid h8'
        have HCE := Lib.hid hcell
        have HLL := Lib.hid hl2
        have HLA := Lib.hid hla
        clear h8 h8' hcell hl2 hla
        go_wp2_with fail
        go_loopg [4] (os.flatten.length) (fun m v4 wr => ∃ j : Nat, v4 = .int .i64 j ∧ m = l2.length - j ∧ l1.length + 6 ≤ j ∧ j ≤ l2.length ∧ w8 = wr)
        case atStart => exact ⟨l1.length + 6, by simp, by rw [HLL.out]; omega, Nat.le_refl _, by rw [HLL.out]; omega, rfl⟩
        case round =>
          obtain ⟨j, rfl, rfl, hj1, hj2, rfl⟩ := hrel
          have hl2b : l2.length ≤ 10000000 := by have := HLL.out; omega
          have u3 : IntKind.i64.wrap ((j : Int) + 1) = (j : Int) + 1 := IntWalk.i64_in _ (by omega)
          have u4 : (0 : Int) ≤ j := by omega
          by_cases hlt2 : j < l2.length
          · have u5 : (j : Int) < l2.length := by omega
            have hj : l2[j]? = some l2[j] := List.getElem?_eq_getElem hlt2
            have hce := HCE.out j _ hj
            have hne : l2[j] ≠ 10 := by
              refine h10 _ ?_
              have e2 := HL2.out
              have h5 : l2[j]? = os.flatten[j - (l1.length + 6)]? := by
                rw [e2, List.getElem?_append_right (by rw [HLA.out]; omega), HLA.out]
              rw [hj] at h5
              exact List.mem_of_getElem? h5.symm
            have d10 : ((l2[j].toNat : Int) == 10) = false := beq_eq_false_iff_ne.2 (fun e => hne (UInt8.toNat.inj (by have h9 : (10 : UInt8).toNat = 10 := rfl; omega)))
            clear hj hne
            go_wp2_with fail
            go_roundg (l2.length - (j + 1))
            case measure => omega
            case rel => exact ⟨j + 1, by simp, rfl, by omega, by omega, rfl⟩
          · have u5 : ¬ ((j : Int) < l2.length) := by omega
            have hz8 := HW8.out.below.size
            go_wp2_with fail
            refine (write_string B b l2 ⟨#[34]⟩ w8 HW8.out.buf (by omega) (by omega) (by decide)).mono ?_
            rintro e wA ⟨rfl, hA⟩
            have hA' : Wrote w wA B b (l2 ++ [34]) := HW8.out.trans hA
            have hSA := Wrote.sameG hS hB hA'
            have hzA := hA'.below.size
            have c4 : wA.cell? ⟨rk, 2, none⟩ = some (.string ⟨#[]⟩) := (hSA.blk HRb.out).cell 2
            have HWA := Lib.hid hA'
            clear hA hA'
            go_wp2_with fail
            refine (write_string B b (l2 ++ [34]) ⟨#[32, 47, 62]⟩ wA HWA.out.buf (by omega) (by rw [List.length_append, List.length_singleton]; omega) (by decide)).mono ?_
            rintro e wB ⟨rfl, hB'⟩
            have hBB : Wrote w wB B b (l2 ++ [34] ++ [32, 47, 62]) := HWA.out.trans hB'
            have HWB := Lib.hid hBB
            clear hB' hBB
            go_wp2_with fail
            go_end0
            refine ⟨rfl, ?_⟩
            have := HWB.out
            rw [HL2.out, HL1.out] at this
            have e3 : l ++ (imgA ++ lkN linkTab u u.size ++ [34]) ++ altA ++ os.flatten ++ [34] ++ [32, 47, 62] = l ++ imgO u os.flatten := by simp [imgO, List.append_assoc]
            rw [e3] at this
            exact this

theorem m_print_image (k : Nat) (a : Addr) (w : World) : (method (k + 1) 210 (.pointer (some a)) "PrintHTML").run Tryz.prog w = .ok (374, .pointer (some a)) w := by kernel_rfl
theorem Prints.image {w0 : World} {rk n TD : Nat} {v tc cr : Value} {u : ByteArray} {xs : List Value} {os : List (List UInt8)} (hR : Blk w0 rk #[v, .string u, .string ⟨#[]⟩, tc, cr] TD) (hown : w0.ownsRow 0 157 1 v n xs) (hn0 : 0 < n) (hn6 : n ≤ 1000000) (hx : RowPrintsT w0 xs os) (h10 : ∀ c, c ∈ os.flatten → c ≠ 10) (hu : u.size ≤ 100000) :
    Prints w0 210 (.pointer (some ⟨rk, 0, none⟩)) (imgO u os.flatten) :=
  ⟨374, .pointer (some ⟨rk, 0, none⟩), fun k w => m_print_image (k + 1) _ w, fun a c w => by kernel_rfl, fun B b l w hS hB hBw hb hl => image_html w0 rk n TD v u tc cr xs os hR hown hn0 hn6 hx h10 hu B b l w hS hB hBw hb hl⟩
end Go.Proofs.YtmmopoofheblbaaGreatDoor

/- What a tree of inlines prints. -/
namespace Go.Proofs.YtmmopoofheblbaaGreatDoor.T
open Go Go.RowKit Go.Proofs

mutual
/-- As text. -/
def textO : Inl → Option (List UInt8)
  | .leaf ty [.string t] => if ty = 224 ∧ t.size ≤ 1000000 then some (escN t t.size) else none
  | .leaf _ _ => none
  | .node ty [] kids _ => if ty = 210 ∧ 0 < kids.length ∧ kids.length ≤ 1000000 then (textsO kids).map List.flatten else none
  | .node _ _ _ _ => none
def textsO : List Inl → Option (List (List UInt8))
  | [] => some []
  | x :: l => (textO x).bind fun o => (textsO l).map fun os => o :: os
end

mutual
theorem textO_prints {A : Nat → Prop} {w : World} : ∀ (t : Inl) (T : Nat) (v : Value) (o : List UInt8), InlAt A w t (.iface T v) → textO t = some o → PrintsT w T v o
  | .leaf ty cells, T, v, o, h, ho => by
    simp only [InlAt] at h
    obtain ⟨b, T', rest, h1, h2, _⟩ := h
    cases h1
    unfold textO at ho
    split at ho
    · rename_i ty' t he
      cases he
      split at ho
      · rename_i hc
        cases ho
        obtain ⟨rfl, hc2⟩ := hc
        exact PrintsT.plain h2 hc2
      · cases ho
    · cases ho
    · rename_i he; cases he
    · cases ho
  | .node ty pre kids post, T, v, o, h, ho => by
    simp only [InlAt] at h
    obtain ⟨b, T', sv, n, xs, h1, h2, _, _, h5, _, h7⟩ := h
    cases h1
    have hl := h7.length
    have hxn := h5.1
    unfold textO at ho
    split at ho
    · rename_i he; cases he
    · cases ho
    · rename_i ty' kids' post' he
      cases he
      split at ho
      · rename_i hc
        obtain ⟨rfl, hc2, hc3⟩ := hc
        obtain ⟨os, hos, rfl⟩ := Option.map_eq_some_iff.1 ho
        exact PrintsT.image h2 h5 (by omega) (by omega) (textsO_prints _ xs os h7 hos)
      · cases ho
    · cases ho
theorem textsO_prints {A : Nat → Prop} {w : World} : ∀ (ts : List Inl) (xs : List Value) (os : List (List UInt8)), InlsAt A w ts xs → textsO ts = some os → RowPrintsT w xs os
  | [], [], os, _, ho => by
    unfold textsO at ho
    cases ho
    exact .nil
  | t :: ts, x :: xs, os, h, ho => by
    simp only [InlsAt] at h
    unfold textsO at ho
    obtain ⟨o, h1, h2⟩ := Option.bind_eq_some_iff.1 ho
    obtain ⟨os', h3, rfl⟩ := Option.map_eq_some_iff.1 h2
    obtain ⟨b, T, rfl, _⟩ := h.1.val
    exact .cons (textO_prints t _ _ o h.1 h1) (textsO_prints ts xs os' h.2 h3)
  | [], _ :: _, _, h, _ => by simp only [InlsAt] at h
  | _ :: _, [], _, h, _ => by simp only [InlsAt] at h
end

/-- As HTML. -/
inductive HtmlO : Inl → List UInt8 → Prop
  | image {u : ByteArray} {tc cr : Value} {kids : List Inl} {os : List (List UInt8)} (hk : 0 < kids.length) (hk6 : kids.length ≤ 1000000) (ho : textsO kids = some os) (h10 : ∀ c, c ∈ os.flatten → c ≠ 10) (hu : u.size ≤ 100000) :
      HtmlO (.node 210 [] kids [.string u, .string ⟨#[]⟩, tc, cr]) (imgO u os.flatten)

theorem HtmlO.prints {A : Nat → Prop} {w : World} {t : Inl} {T : Nat} {v : Value} {o : List UInt8} (ho : HtmlO t o) (h : InlAt A w t (.iface T v)) : Prints w T v o := by
  cases ho with
  | image hk hk6 ho h10 hu =>
    simp only [InlAt] at h
    obtain ⟨b, T', sv, n, xs, h1, h2, _, _, h5, _, h7⟩ := h
    cases h1
    have hl := h7.length
    have hxn := h5.1
    exact Prints.image h2 h5 (by omega) (by omega) (textsO_prints _ xs _ h7 ho) h10 hu
end Go.Proofs.YtmmopoofheblbaaGreatDoor.T

/- A row of inlines as a tree: which blocks it consists of, what it prints. -/
namespace Go.Proofs.YtmmopoofheblbaaGreatDoor.G
open Go Go.RowKit Go.Proofs

def delO : List UInt8 := [60, 100, 101, 108, 62]
def delC : List UInt8 := [60, 47, 100, 101, 108, 62]

/-- The inlines of a row. -/
inductive InsAt (w : World) : List Value → List (List UInt8) → Prop
  | nil : InsAt w [] []
  | plain {xb : Nat} {t : ByteArray} {xs : List Value} {os : List (List UInt8)} (hb : Blk w xb #[.string t] 221) (ht : t.size ≤ 1000000) (hr : InsAt w xs os) : InsAt w (.iface 224 (.pointer (some ⟨xb, 0, none⟩)) :: xs) (escN t t.size :: os)
  | esc {xb : Nat} {t : ByteArray} {xs : List Value} {os : List (List UInt8)} (hb : Blk w xb #[.string t] 223) (ht : t.size ≤ 1000000) (hr : InsAt w xs os) : InsAt w (.iface 220 (.pointer (some ⟨xb, 0, none⟩)) :: xs) (escN t t.size :: os)
  | del {rk n TD : Nat} {m v : Value} {ys xs : List Value} {ps os : List (List UInt8)} (hb : Blk w rk #[m, v] TD) (hTD : TD = 206 ∨ TD = 202) (hrow : w.ownsRow 0 157 1 v n ys) (hn0 : 0 < n) (hn6 : n ≤ 1000000) (hi : InsAt w ys ps) (hr : InsAt w xs os) :
      InsAt w (.iface 205 (.pointer (some ⟨rk, 0, none⟩)) :: xs) ((delO ++ ps.flatten ++ delC) :: os)
  | tree {A : Nat → Prop} {t : T.Inl} {Ty : Nat} {v : Value} {o : List UInt8} {xs : List Value} {os : List (List UInt8)} (ht : T.InlAt A w t (.iface Ty v)) (ho : T.HtmlO t o) (hr : InsAt w xs os) : InsAt w (.iface Ty v :: xs) (o :: os)

theorem Calm.not {S : Nat → Prop} {w : World} (h : Calm S w) {b T : Nat} {cs : Array Value} (hb : Blk w b cs T) (h1 : T ≠ 167) (h2 : T ≠ 135) : ¬ S b := fun hs => (h b cs T hb hs).elim h1 h2
theorem Calm.row {S : Nat → Prop} {w w' : World} (h : Calm S w) (hm : Mods S w w') {n : Nat} {v : Value} {xs : List Value} (hn0 : 0 < n) (hr : w.ownsRow 0 157 1 v n xs) : w'.ownsRow 0 157 1 v n xs := by
  obtain ⟨gl, lc, rfl, ⟨cur, hcur⟩, _, _⟩ := ownsRow_form hr hn0
  refine ownsRow_keep hr hm (fun b hb hs => ?_)
  cases hb
  exact h.not hcur (by decide) (by decide) hs

theorem InsAt.keep {S : Nat → Prop} {w w' : World} (hc : Calm S w) (hm : Mods S w w') {xs : List Value} {os : List (List UInt8)} (h : InsAt w xs os) : InsAt w' xs os := by
  induction h with
  | nil => exact .nil
  | plain hb ht _ ih => exact .plain (hb.keep hm (hc.not hb (by decide) (by decide))) ht ih
  | esc hb ht _ ih => exact .esc (hb.keep hm (hc.not hb (by decide) (by decide))) ht ih
  | del hb hTD hrow hn0 hn6 _ _ ih1 ih2 => exact .del (hb.keep hm (hc.not hb (by rcases hTD with h | h <;> rw [h] <;> decide) (by rcases hTD with h | h <;> rw [h] <;> decide))) hTD (hc.row hm hn0 hrow) hn0 hn6 ih1 ih2
  | tree ht ho _ ih =>
    refine .tree (ht.keep (A' := _) hm (fun b cs T hb hT hs => ?_) (fun _ hb => Or.inl hb)) ho ih
    rcases hc b cs T hb hs with h | h
    · exact absurd h hT.2.1
    · exact absurd h hT.2.2.1

theorem InsAt.prints {w : World} {xs : List Value} {os : List (List UInt8)} (h : InsAt w xs os) : RowPrints w xs os := by
  induction h with
  | nil => exact .nil
  | plain hb ht _ ih => exact .cons (Prints.plain hb ht) ih
  | esc hb ht _ ih => exact .cons (Prints.esc hb ht) ih
  | del hb _ hrow hn0 hn6 _ _ ih1 ih2 => exact .cons (Prints.del hb hrow hn0 hn6 ih1) ih2
  | tree ht ho _ ih => exact .cons (ho.prints ht) ih

/-- A list of inlines that prints out. -/
def Row (out : List UInt8) (w : World) (g n cap : Nat) : Prop :=
  0 < n ∧ n ≤ 1000000 ∧ ∃ ys os, w.ownsRow 0 157 1 (.slice (some ⟨g, 0, none⟩) n cap) n ys ∧ InsAt w ys os ∧ os.flatten = out
theorem row_stays (out : List UInt8) : Stays (Row out) := by
  rintro S W W' g n c ⟨h0, h6, ys, os, h1, h2, h3⟩ hc hm
  exact ⟨h0, h6, ys, os, hc.row hm h0 h1, h2.keep hc hm, h3⟩
end Go.Proofs.YtmmopoofheblbaaGreatDoor.G

/- inline on a text of pieces of any kind: the walk. -/
namespace Go.Proofs.YtmmopoofheblbaaGreatDoor.G
open Go Go.RowKit Go.Proofs

theorem as_no (p : Pc) (h : p.Ok) (X : Nat) (v : Value) (w : World) : (Instr.typeAssert (.iface p.ty v) X 228 true).run Tryz.prog w = .ok (.tuple #[.pointer none, .bool false]) w :=
  as_ptr_no _ 228 231 (by kernel_rfl) (fun _ => by kernel_rfl) X v w h.open_

theorem plan_ne {o : Op} {s : ByteArray} {k e : Nat} {r : List Pc} (h : Plan o s k e r) : e < s.size → r ≠ [] := by
  induction h with
  | fin e => intro h; rw [if_pos h]; simp
  | dull _ _ _ ih => exact ih
  | piece _ _ _ _ _ _ _ _ _ _ _ _ _ _ => intro _; simp

theorem plan_end {o : Op} {s : ByteArray} {e : Nat} {r : List Pc} (h : Plan o s s.size e r) : r = if e < s.size then [.plain (s.extract e s.size)] else [] := by
  generalize hk : s.size = k at h
  cases h with
  | fin e => rfl
  | dull h1 _ _ => omega
  | piece h1 _ _ _ _ _ _ _ _ _ _ _ _ => omega

theorem plan_cases {o : Op} {s : ByteArray} {k e : Nat} {r : List Pc} (h : Plan o s k e r) :
    (∃ hk : k < s.size, Idle o s[k] ∧ Plan o s (k + 1) e r) ∨
    (∃ (hk : k < s.size) (fn : Nat) (pc : Pc) (st en : Nat) (r' : List Pc), Starts o s[k] fn ∧ e ≤ st ∧ st ≤ k ∧ k < en ∧ en ≤ s.size ∧ PieceCall s k fn pc st en ∧ pc.Ok ∧ Plan o s en en r' ∧ r = (if e < st then [.plain (s.extract e st)] else []) ++ pc :: r') ∨ k = s.size := by
  cases h with
  | fin e => exact Or.inr (Or.inr rfl)
  | dull h1 h2 h3 => exact Or.inl ⟨h1, h2, h3⟩
  | piece h1 fn h2 pc st en h3 h4 h5 h6 h7 ho h8 => exact Or.inr (Or.inl ⟨h1, fn, pc, st, en, _, h2, h3, h4, h5, h6, h7, ho, h8, rfl⟩)

theorem Held.again {w0 w w' : World} {bp : Nat} {p : PSt} {s : ByteArray} {e n : Nat} {lv : Value} {xs : List Value} {pcs : List Pc} (h : Held w0 w bp p s e n lv xs pcs) (hm : Same w w') :
    Held w0 (w'.setCell ⟨bp, 9, none⟩ lv) bp p s e n lv xs pcs :=
  (h.same hm).skipped ((Mods.refl (fun k => k = bp) w').setCell (p := ⟨bp, 9, none⟩) (fun _ => rfl) _) (((h.same hm).at_).set 9 _ _ rfl (by decide))

set_option maxRecDepth 100000 in
set_option maxHeartbeats 8000000 in
theorem inline_gen (o : Op) (bp : Nat) (p : PSt) (s : ByteArray) (w : World) (hp : PsAt w bp p) (hs : s.size ≤ 900000) (h0 : 0 < s.size) (all : List Pc) (hg : Plan o s 0 0 all) (hO : Opt w p 3 false) (hOp : OpAt w p o) (hpb : p.parser ≠ bp)
    (hT : Calls Tryz.prog 100 #[.string s] w fun e w' => e = .returned (.string s) ∧ w = w')
    (P1 P2 : World → Nat → Nat → Nat → Prop) (hP1 : Stays P1) (hP2 : Stays P2)
    (hEm : ∀ W g n cap xs c, Held w W bp { p with corner := c } s s.size n (.slice (some ⟨g, 0, none⟩) n cap) xs all → 0 < n → n ≤ s.size + 1 →
      Calls Tryz.prog 117 #[.pointer (some ⟨bp, 0, none⟩), .slice (some ⟨g, 0, none⟩) 0 cap, .slice (some ⟨g, 0, none⟩) n cap] W fun e W' => ∃ g2 n2 cap2, e = .returned (.slice (some ⟨g2, 0, none⟩) n2 cap2) ∧ Mid w W' bp p s c ∧ P1 W' g2 n2 cap2)
    (hMe : ∀ W g n cap c, Mid w W bp p s c → P1 W g n cap →
      Calls Tryz.prog 118 #[.pointer (some ⟨bp, 0, none⟩), .slice (some ⟨g, 0, none⟩) n cap] W fun e W' => ∃ g2 n2 cap2, e = .returned (.slice (some ⟨g2, 0, none⟩) n2 cap2) ∧ Mid w W' bp p s c ∧ P2 W' g2 n2 cap2) :
    Calls Tryz.prog 83 #[.pointer (some ⟨bp, 0, none⟩), .string s] w fun e w' => ∃ g n cap c, e = .returned (.slice (some ⟨g, 0, none⟩) n cap) ∧ Mid w w' bp p s c ∧ P2 w' g n cap := by
  have hl := hp.lt
  have f7 := hp.fr 7
  have f8 := hp.fr 8
  have f9 := hp.fr 9
  have k7 := hp.s
  have k8 := hp.emitted
  have k9 := hp.list
  go_enter Tryz.func83, Tryz.ntmps83
  go_wp2_with fail
  refine hT.mono ?_
  rintro e w' ⟨rfl, rfl⟩
  go_wp2_with fail
  generalize hW : (World.setCell _ _ _ : World) = W
  have hne := plan_ne hg h0
  have hG : Going o w W bp p s all 0 := by
    subst hW
    refine ⟨Nat.zero_le _, p.corner, 0, 0, .slice none 0 0, [], [], all, Nat.le_refl _, Nat.le_refl _, ⟨?_, ?_, ⟨rfl, Or.inl ⟨rfl, rfl⟩⟩, trivial, (fun _ h => by cases h), (fun _ h => by cases h)⟩, hg, rfl⟩
    · exact (((Mods.refl (fun b => b = bp) w).setCell (p := ⟨bp, 7, none⟩) (fun _ => rfl) _).setCell (p := ⟨bp, 9, none⟩) (fun _ => rfl) _).setCell (p := ⟨bp, 8, none⟩) (fun _ => rfl) _
    · exact ((hp.set 7 _ { p with s := s } rfl (by decide)).set 9 _ { p with s := s, list := .slice none 0 0 } rfl (by decide)).set 8 _ _ rfl (by decide)
  clear hW hT hg f7 f8 f9 k7 k8 k9 hl
  refine wp_loop_ghost_k (fun m a wr => ∃ (k : Nat) (v : Nat → Value), (m = s.size - k ∧ Going o w wr bp p s all k) ∧
    a = ⟨#[.pointer (some ⟨bp, 0, none⟩), .string s, undef, undef, .slice none 0 0, .slice none 0 0, .int .i64 0, .bool false, .int .i64 k, v 9, v 10, v 11, v 12, v 13, v 14, v 15, v 16, v 17, v 18, v 19, v 20, .string s, .string s, .pointer (some ⟨bp, 0, none⟩), .string s, .pointer (some ⟨bp, 0, none⟩), .pointer (some ⟨bp, 7, none⟩), .pointer (some ⟨bp, 0, none⟩), .pointer (some ⟨bp, 0, none⟩), .pointer (some ⟨bp, 9, none⟩), .pointer (some ⟨bp, 0, none⟩), .pointer (some ⟨bp, 0, none⟩), .pointer (some ⟨bp, 8, none⟩), v 33, v 34, v 35, v 36, v 37, v 38, v 39, v 40, v 41, v 42, v 43, v 44, v 45, v 46, v 47, v 48, v 49, v 50, v 51, v 52, v 53, v 54, v 55, v 56, v 57, v 58, v 59, v 60, v 61, v 62, v 63, v 64, v 65, v 66, v 67, v 68, v 69, v 70, v 71, v 72, v 73, v 74, v 75, v 76, v 77, v 78, v 79, v 80, v 81, v 82, v 83, v 84, v 85, v 86, v 87, v 88, v 89, v 90, v 91, v 92, v 93, v 94, v 95, v 96, v 97, v 98, v 99, v 100, v 101, v 102, v 103, v 104, v 105, v 106, v 107, v 108, v 109, v 110, v 111, v 112, v 113, v 114, v 115, v 116, v 117, v 118, v 119, v 120, v 121, v 122, v 123, v 124, v 125, v 126, v 127, v 128, v 129, v 130, v 131, v 132, v 133, v 134, v 135, v 136, v 137, v 138, v 139, v 140, v 141, v 142, v 143, v 144, v 145, v 146, v 147, v 148, v 149, v 150, v 151, v 152, v 153, v 154, v 155, v 156, v 157, v 158, v 159, v 160, v 161, v 162, v 163, v 164, v 165, v 166, v 167, v 168, v 169, v 170, v 171, v 172, v 173, v 174, v 175, v 176, v 177, v 178, v 179, v 180, v 181, v 182, v 183, v 184, v 185, v 186, v 187, v 188, v 189, v 190, v 191, v 192, v 193, v 194, v 195, v 196, v 197, v 198, v 199, v 200, v 201, v 202, v 203, v 204, v 205, v 206, v 207, v 208, v 209, v 210, v 211, v 212, v 213, v 214, v 215, v 216, v 217, v 218, v 219, v 220, v 221, v 222, v 223, v 224, v 225, v 226, v 227, v 228, v 229, v 230, v 231, v 232, v 233, v 234, v 235, v 236, v 237, v 238, v 239, v 240, v 241, v 242, v 243, v 244, v 245, v 246, v 247, v 248, v 249, v 250, v 251, v 252, v 253, v 254, v 255, v 256, v 257, v 258, v 259, v 260, v 261, v 262, v 263, v 264, v 265, v 266, v 267, v 268, v 269, v 270, v 271, v 272, v 273, v 274, v 275, v 276, v 277, v 278, v 279, v 280, v 281, v 282, v 283, v 284, v 285, v 286, v 287, v 288, v 289, v 290, v 291, v 292, v 293, v 294, v 295, v 296, v 297, v 298, v 299, v 300, v 301, v 302, v 303, v 304, v 305, v 306, v 307, v 308, v 309, v 310, v 311, v 312, v 313, v 314, v 315, v 316, v 317, v 318, v 319, v 320, v 321, v 322, v 323, v 324, v 325, v 326, v 327, v 328, v 329, v 330, v 331, v 332, v 333, v 334], []⟩) s.size ⟨0, fun _ => undef, ⟨rfl, hG⟩, rfl⟩ ?_
  · intro gk a wr hinv
    obtain ⟨k, v, ⟨rfl, hG⟩, rfl⟩ := hinv
    intro J K hJ hK
    have HNE := Lib.hid hne
    clear hne
    obtain ⟨hle, c0, e, n, lv, xs, pcs, r, he, hn, hh, hpl, hsc⟩ := hG
    have hOr := hOp.keep hh.mods hpb
    have o1 := hOr.s.cell
    have o9 := hOr.q.cell
    have k0 : wr.cell? ⟨bp, 0, none⟩ = some (.pointer (some ⟨p.parser, 0, none⟩)) := hh.at_.parser
    clear hOr
    rcases plan_cases hpl with ⟨hk, hd, hp2⟩ | ⟨hk, fn, pc, st, en, r', hb, h1, h2, h3, h4, hcall, hok, hp2, hr⟩ | hk
    · have w1 : (k : Int) < s.size := by omega
      have w2 : (0 : Int) ≤ k := by omega
      have w3 : IntKind.i64.wrap ((k : Int) + 1) = (k : Int) + 1 := IntWalk.i64_in _ (by omega)
      have hG2 : Going o w wr bp p s all (k + 1) := ⟨hk, c0, e, n, lv, xs, pcs, r, by omega, hn, hh, hp2, hsc⟩
      have HG2 := Lib.hid hG2
      have hE := eql_nil_nil
      rcases hd with hd | ⟨hd, ho⟩ | ⟨hd, ho⟩ | ⟨hd, ho⟩
      · have d1 : ((s[k].toNat : Int) == 92) = false := dull_ne hd 92 rfl
        have d2 : ((s[k].toNat : Int) == 96) = false := dull_ne hd 96 rfl
        have d3 : ((s[k].toNat : Int) == 60) = false := dull_ne hd 60 rfl
        have d4 : ((s[k].toNat : Int) == 91) = false := dull_ne hd 91 rfl
        have d5 : ((s[k].toNat : Int) == 33) = false := dull_ne hd 33 rfl
        have d6 : ((s[k].toNat : Int) == 95) = false := dull_ne hd 95 rfl
        have d7 : ((s[k].toNat : Int) == 42) = false := dull_ne hd 42 rfl
        have d8 : ((s[k].toNat : Int) == 46) = false := dull_ne hd 46 rfl
        have d9 : ((s[k].toNat : Int) == 45) = false := dull_ne hd 45 rfl
        have d10 : ((s[k].toNat : Int) == 34) = false := dull_ne hd 34 rfl
        have d11 : ((s[k].toNat : Int) == 39) = false := dull_ne hd 39 rfl
        have d12 : ((s[k].toNat : Int) == 126) = false := dull_ne hd 126 rfl
        have d13 : ((s[k].toNat : Int) == 10) = false := dull_ne hd 10 rfl
        have d14 : ((s[k].toNat : Int) == 38) = false := dull_ne hd 38 rfl
        have d15 : ((s[k].toNat : Int) == 58) = false := dull_ne hd 58 rfl
        clear hG2 hd hp2 hpl hsc hh
        go_wp2_with fail
        all_goals
          exact Handed.intro (s.size - (k + 1)) (by omega) (hJ _ _ _ ⟨k + 1, (fun d => cond (Nat.ble 9 d && Nat.ble d 15) (List.getD [_, _, _, _, _, _, _] (d - 9) undef) (cond (Nat.ble 33 d && Nat.ble d 165) (cond (Nat.ble d 96) (cond (Nat.ble d 64) (cond (Nat.ble d 48) (List.getD [_, _, _, _, _, _, _, _, _, _, _, _, _, _, _, _] (d - 33) undef) (List.getD [_, _, _, _, _, _, _, _, _, _, _, _, _, _, _, _] (d - 49) undef)) (cond (Nat.ble d 80) (List.getD [_, _, _, _, _, _, _, _, _, _, _, _, _, _, _, _] (d - 65) undef) (List.getD [_, _, _, _, _, _, _, _, _, _, _, _, _, _, _, _] (d - 81) undef))) (cond (Nat.ble d 128) (cond (Nat.ble d 112) (List.getD [_, _, _, _, _, _, _, _, _, _, _, _, _, _, _, _] (d - 97) undef) (List.getD [_, _, _, _, _, _, _, _, _, _, _, _, _, _, _, _] (d - 113) undef)) (cond (Nat.ble d 144) (List.getD [_, _, _, _, _, _, _, _, _, _, _, _, _, _, _, _] (d - 129) undef) (cond (Nat.ble d 160) (List.getD [_, _, _, _, _, _, _, _, _, _, _, _, _, _, _, _] (d - 145) undef) (List.getD [_, _, _, _, _] (d - 161) undef))))) (cond (Nat.ble 293 d && Nat.ble d 294) (List.getD [_, _] (d - 293) undef) (v d)))), ⟨rfl, HG2.out⟩, rfl⟩)
      · have d1 : ((s[k].toNat : Int) == 92) = false := by rw [hd]; rfl
        have d2 : ((s[k].toNat : Int) == 96) = false := by rw [hd]; rfl
        have d3 : ((s[k].toNat : Int) == 60) = false := by rw [hd]; rfl
        have d4 : ((s[k].toNat : Int) == 91) = false := by rw [hd]; rfl
        have d5 : ((s[k].toNat : Int) == 33) = false := by rw [hd]; rfl
        have d6 : ((s[k].toNat : Int) == 95) = false := by rw [hd]; rfl
        have d7 : ((s[k].toNat : Int) == 42) = false := by rw [hd]; rfl
        have d8 : ((s[k].toNat : Int) == 46) = false := by rw [hd]; rfl
        have d9 : ((s[k].toNat : Int) == 45) = false := by rw [hd]; rfl
        have d10 : ((s[k].toNat : Int) == 34) = false := by rw [hd]; rfl
        have d11 : ((s[k].toNat : Int) == 39) = false := by rw [hd]; rfl
        have d12 : ((s[k].toNat : Int) == 126) = true := by rw [hd]; rfl
        rw [ho] at o1
        clear hG2 hd hp2 hpl hsc hh
        go_wp2_with fail
        all_goals
          exact Handed.intro (s.size - (k + 1)) (by omega) (hJ _ _ _ ⟨k + 1, (fun d => cond (Nat.ble 9 d && Nat.ble d 15) (List.getD [_, _, _, _, _, _, _] (d - 9) undef) (cond (Nat.ble 33 d && Nat.ble d 165) (cond (Nat.ble d 96) (cond (Nat.ble d 64) (cond (Nat.ble d 48) (List.getD [_, _, _, _, _, _, _, _, _, _, _, _, _, _, _, _] (d - 33) undef) (List.getD [_, _, _, _, _, _, _, _, _, _, _, _, _, _, _, _] (d - 49) undef)) (cond (Nat.ble d 80) (List.getD [_, _, _, _, _, _, _, _, _, _, _, _, _, _, _, _] (d - 65) undef) (List.getD [_, _, _, _, _, _, _, _, _, _, _, _, _, _, _, _] (d - 81) undef))) (cond (Nat.ble d 128) (cond (Nat.ble d 112) (List.getD [_, _, _, _, _, _, _, _, _, _, _, _, _, _, _, _] (d - 97) undef) (List.getD [_, _, _, _, _, _, _, _, _, _, _, _, _, _, _, _] (d - 113) undef)) (cond (Nat.ble d 144) (List.getD [_, _, _, _, _, _, _, _, _, _, _, _, _, _, _, _] (d - 129) undef) (cond (Nat.ble d 160) (List.getD [_, _, _, _, _, _, _, _, _, _, _, _, _, _, _, _] (d - 145) undef) (List.getD [_, _, _, _, _] (d - 161) undef))))) (cond (Nat.ble 293 d && Nat.ble d 294) (List.getD [_, _] (d - 293) undef) (v d)))), ⟨rfl, HG2.out⟩, rfl⟩)
      · have d1 : ((s[k].toNat : Int) == 92) = false := by rw [hd]; rfl
        have d2 : ((s[k].toNat : Int) == 96) = false := by rw [hd]; rfl
        have d3 : ((s[k].toNat : Int) == 60) = false := by rw [hd]; rfl
        have d4 : ((s[k].toNat : Int) == 91) = false := by rw [hd]; rfl
        have d5 : ((s[k].toNat : Int) == 33) = false := by rw [hd]; rfl
        have d6 : ((s[k].toNat : Int) == 95) = false := by rw [hd]; rfl
        have d7 : ((s[k].toNat : Int) == 42) = false := by rw [hd]; rfl
        have d8 : ((s[k].toNat : Int) == 46) = false := by rw [hd]; rfl
        have d9 : ((s[k].toNat : Int) == 45) = false := by rw [hd]; rfl
        have d10 : ((s[k].toNat : Int) == 34) = true := by rw [hd]; rfl
        rw [ho] at o9
        clear hG2 hd hp2 hpl hsc hh
        go_wp2_with fail
        all_goals
          exact Handed.intro (s.size - (k + 1)) (by omega) (hJ _ _ _ ⟨k + 1, (fun d => cond (Nat.ble 9 d && Nat.ble d 15) (List.getD [_, _, _, _, _, _, _] (d - 9) undef) (cond (Nat.ble 33 d && Nat.ble d 165) (cond (Nat.ble d 96) (cond (Nat.ble d 64) (cond (Nat.ble d 48) (List.getD [_, _, _, _, _, _, _, _, _, _, _, _, _, _, _, _] (d - 33) undef) (List.getD [_, _, _, _, _, _, _, _, _, _, _, _, _, _, _, _] (d - 49) undef)) (cond (Nat.ble d 80) (List.getD [_, _, _, _, _, _, _, _, _, _, _, _, _, _, _, _] (d - 65) undef) (List.getD [_, _, _, _, _, _, _, _, _, _, _, _, _, _, _, _] (d - 81) undef))) (cond (Nat.ble d 128) (cond (Nat.ble d 112) (List.getD [_, _, _, _, _, _, _, _, _, _, _, _, _, _, _, _] (d - 97) undef) (List.getD [_, _, _, _, _, _, _, _, _, _, _, _, _, _, _, _] (d - 113) undef)) (cond (Nat.ble d 144) (List.getD [_, _, _, _, _, _, _, _, _, _, _, _, _, _, _, _] (d - 129) undef) (cond (Nat.ble d 160) (List.getD [_, _, _, _, _, _, _, _, _, _, _, _, _, _, _, _] (d - 145) undef) (List.getD [_, _, _, _, _] (d - 161) undef))))) (cond (Nat.ble 293 d && Nat.ble d 294) (List.getD [_, _] (d - 293) undef) (v d)))), ⟨rfl, HG2.out⟩, rfl⟩)
      · have d1 : ((s[k].toNat : Int) == 92) = false := by rw [hd]; rfl
        have d2 : ((s[k].toNat : Int) == 96) = false := by rw [hd]; rfl
        have d3 : ((s[k].toNat : Int) == 60) = false := by rw [hd]; rfl
        have d4 : ((s[k].toNat : Int) == 91) = false := by rw [hd]; rfl
        have d5 : ((s[k].toNat : Int) == 33) = false := by rw [hd]; rfl
        have d6 : ((s[k].toNat : Int) == 95) = false := by rw [hd]; rfl
        have d7 : ((s[k].toNat : Int) == 42) = false := by rw [hd]; rfl
        have d8 : ((s[k].toNat : Int) == 46) = false := by rw [hd]; rfl
        have d9 : ((s[k].toNat : Int) == 45) = false := by rw [hd]; rfl
        have d10 : ((s[k].toNat : Int) == 34) = false := by rw [hd]; rfl
        have d11 : ((s[k].toNat : Int) == 39) = true := by rw [hd]; rfl
        rw [ho] at o9
        clear hG2 hd hp2 hpl hsc hh
        go_wp2_with fail
        all_goals
          exact Handed.intro (s.size - (k + 1)) (by omega) (hJ _ _ _ ⟨k + 1, (fun d => cond (Nat.ble 9 d && Nat.ble d 15) (List.getD [_, _, _, _, _, _, _] (d - 9) undef) (cond (Nat.ble 33 d && Nat.ble d 165) (cond (Nat.ble d 96) (cond (Nat.ble d 64) (cond (Nat.ble d 48) (List.getD [_, _, _, _, _, _, _, _, _, _, _, _, _, _, _, _] (d - 33) undef) (List.getD [_, _, _, _, _, _, _, _, _, _, _, _, _, _, _, _] (d - 49) undef)) (cond (Nat.ble d 80) (List.getD [_, _, _, _, _, _, _, _, _, _, _, _, _, _, _, _] (d - 65) undef) (List.getD [_, _, _, _, _, _, _, _, _, _, _, _, _, _, _, _] (d - 81) undef))) (cond (Nat.ble d 128) (cond (Nat.ble d 112) (List.getD [_, _, _, _, _, _, _, _, _, _, _, _, _, _, _, _] (d - 97) undef) (List.getD [_, _, _, _, _, _, _, _, _, _, _, _, _, _, _, _] (d - 113) undef)) (cond (Nat.ble d 144) (List.getD [_, _, _, _, _, _, _, _, _, _, _, _, _, _, _, _] (d - 129) undef) (cond (Nat.ble d 160) (List.getD [_, _, _, _, _, _, _, _, _, _, _, _, _, _, _, _] (d - 145) undef) (List.getD [_, _, _, _, _] (d - 161) undef))))) (cond (Nat.ble 293 d && Nat.ble d 294) (List.getD [_, _] (d - 293) undef) (v d)))), ⟨rfl, HG2.out⟩, rfl⟩)
    · have w1 : (k : Int) < s.size := by omega
      have w2 : (0 : Int) ≤ k := by omega
      have HSC := Lib.hid hsc
      have HR := Lib.hid hr
      have HP2 := Lib.hid hp2
      have HCALL := Lib.hid hcall
      clear hsc hr hp2 hcall hpl
      have hE := eql_func_nil
      have hAO := as_no pc hok
      have HOK := Lib.hid hok
      clear hok
      rcases hb with ⟨hc, rfl⟩ | ⟨hc, rfl⟩ | ⟨hc, rfl⟩ | ⟨hc, rfl, ho⟩ | ⟨hc, rfl, ho⟩ | ⟨hc, rfl, ho⟩
      · have d1 : ((s[k].toNat : Int) == 92) = true := by rw [hc]; rfl
        clear hc
        go_wp2_with fail
        refine (HCALL.out bp _ wr hh.at_).mono ?_
        rintro e' wA ⟨b, c1, rfl, hmA, hpA, hbn, hbA⟩
        have hbn2 := Nat.le_trans hh.mods.size hbn
        have hhA : Held w wA bp { p with corner := c1 } s e n lv xs pcs := hh.cornered hmA hpA
        clear hmA hpA hh
        go_wp2_with fail
        refine (emit_held hhA st h1 (by omega) (by omega) (by omega)).mono ?_
        rintro e' wB ⟨rfl, n', lv', xs', hn', hmB, hB⟩
        have hbB := hbA.keep hmB (pcs_safe hhA.at_ hhA.row b _ _ hbA HOK.out.bty_is)
        have hnn : n' ≤ st ∨ n' = n := by
          have e1 := hB.pcs.length
          have e2 := hB.row.1
          have e3 := hhA.pcs.length
          have e4 := hhA.row.1
          rw [List.length_append] at e1
          by_cases hlt : e < st
          · left; omega
          · rw [if_neg hlt] at e1
            right
            simp at e1
            omega
        have k9 := hB.at_.list
        have hl9 := hB.at_.lt
        clear hmB hbA hhA
        go_wp2_with (at_builtin; refine ap_inl rfl (.tmp 147) (.tmp 149) rfl lv' n' xs' rfl (hB.row.alloc _) wB.heap.size 1 _ (.pointer (some ⟨b, 0, none⟩)) rfl ((Blk.newAt _ _ rfl).cell 0) (by omega) ?_)
        intro g cap wC hown1 hgrow hloc
        obtain ⟨k9', f9', hl9'⟩ := hB.push_at hgrow
        have hP := hB.push hown1 hgrow hloc HOK.out hbn2 hbB
        clear hgrow hloc hown1 k9 hl9
        go_wp2_with fail
        refine (skip_any bp _ _ _ hP.at_).mono ?_
        rintro e' wD ⟨rfl, hmD, hpD⟩
        go_wp2_with fail
        exact Handed.intro (s.size - en) (by omega) (hJ _ _ _ ⟨en, (fun d => cond (Nat.ble 9 d && Nat.ble d 15) (List.getD [_, _, _, _, _, _, _] (d - 9) undef) (cond (Nat.ble 33 d && Nat.ble d 165) (cond (Nat.ble d 96) (cond (Nat.ble d 64) (cond (Nat.ble d 48) (List.getD [_, _, _, _, _, _, _, _, _, _, _, _, _, _, _, _] (d - 33) undef) (List.getD [_, _, _, _, _, _, _, _, _, _, _, _, _, _, _, _] (d - 49) undef)) (cond (Nat.ble d 80) (List.getD [_, _, _, _, _, _, _, _, _, _, _, _, _, _, _, _] (d - 65) undef) (List.getD [_, _, _, _, _, _, _, _, _, _, _, _, _, _, _, _] (d - 81) undef))) (cond (Nat.ble d 128) (cond (Nat.ble d 112) (List.getD [_, _, _, _, _, _, _, _, _, _, _, _, _, _, _, _] (d - 97) undef) (List.getD [_, _, _, _, _, _, _, _, _, _, _, _, _, _, _, _] (d - 113) undef)) (cond (Nat.ble d 144) (List.getD [_, _, _, _, _, _, _, _, _, _, _, _, _, _, _, _] (d - 129) undef) (cond (Nat.ble d 160) (List.getD [_, _, _, _, _, _, _, _, _, _, _, _, _, _, _, _] (d - 145) undef) (List.getD [_, _, _, _, _] (d - 161) undef))))) (cond (Nat.ble 293 d && Nat.ble d 294) (List.getD [_, _] (d - 293) undef) (v d)))), ⟨rfl, h4, c1, en, n' + 1, _, _, _, r', Nat.le_refl _, by omega, hP.skipped hmD hpD, HP2.out, by rw [← HSC.out, HR.out]; simp⟩, rfl⟩)
      · have d1 : ((s[k].toNat : Int) == 92) = false := by rw [hc]; rfl
        have d2 : ((s[k].toNat : Int) == 96) = false := by rw [hc]; rfl
        have d3 : ((s[k].toNat : Int) == 60) = true := by rw [hc]; rfl
        clear hc
        go_wp2_with fail
        refine (HCALL.out bp _ wr hh.at_).mono ?_
        rintro e' wA ⟨b, c1, rfl, hmA, hpA, hbn, hbA⟩
        have hbn2 := Nat.le_trans hh.mods.size hbn
        have hhA : Held w wA bp { p with corner := c1 } s e n lv xs pcs := hh.cornered hmA hpA
        clear hmA hpA hh
        go_wp2_with fail
        refine (emit_held hhA st h1 (by omega) (by omega) (by omega)).mono ?_
        rintro e' wB ⟨rfl, n', lv', xs', hn', hmB, hB⟩
        have hbB := hbA.keep hmB (pcs_safe hhA.at_ hhA.row b _ _ hbA HOK.out.bty_is)
        have hnn : n' ≤ st ∨ n' = n := by
          have e1 := hB.pcs.length
          have e2 := hB.row.1
          have e3 := hhA.pcs.length
          have e4 := hhA.row.1
          rw [List.length_append] at e1
          by_cases hlt : e < st
          · left; omega
          · rw [if_neg hlt] at e1
            right
            simp at e1
            omega
        have k9 := hB.at_.list
        have hl9 := hB.at_.lt
        clear hmB hbA hhA
        go_wp2_with (at_builtin; refine ap_inl rfl (.tmp 147) (.tmp 149) rfl lv' n' xs' rfl (hB.row.alloc _) wB.heap.size 1 _ (.pointer (some ⟨b, 0, none⟩)) rfl ((Blk.newAt _ _ rfl).cell 0) (by omega) ?_)
        intro g cap wC hown1 hgrow hloc
        obtain ⟨k9', f9', hl9'⟩ := hB.push_at hgrow
        have hP := hB.push hown1 hgrow hloc HOK.out hbn2 hbB
        clear hgrow hloc hown1 k9 hl9
        go_wp2_with fail
        refine (skip_any bp _ _ _ hP.at_).mono ?_
        rintro e' wD ⟨rfl, hmD, hpD⟩
        go_wp2_with fail
        exact Handed.intro (s.size - en) (by omega) (hJ _ _ _ ⟨en, (fun d => cond (Nat.ble 9 d && Nat.ble d 15) (List.getD [_, _, _, _, _, _, _] (d - 9) undef) (cond (Nat.ble 33 d && Nat.ble d 165) (cond (Nat.ble d 96) (cond (Nat.ble d 64) (cond (Nat.ble d 48) (List.getD [_, _, _, _, _, _, _, _, _, _, _, _, _, _, _, _] (d - 33) undef) (List.getD [_, _, _, _, _, _, _, _, _, _, _, _, _, _, _, _] (d - 49) undef)) (cond (Nat.ble d 80) (List.getD [_, _, _, _, _, _, _, _, _, _, _, _, _, _, _, _] (d - 65) undef) (List.getD [_, _, _, _, _, _, _, _, _, _, _, _, _, _, _, _] (d - 81) undef))) (cond (Nat.ble d 128) (cond (Nat.ble d 112) (List.getD [_, _, _, _, _, _, _, _, _, _, _, _, _, _, _, _] (d - 97) undef) (List.getD [_, _, _, _, _, _, _, _, _, _, _, _, _, _, _, _] (d - 113) undef)) (cond (Nat.ble d 144) (List.getD [_, _, _, _, _, _, _, _, _, _, _, _, _, _, _, _] (d - 129) undef) (cond (Nat.ble d 160) (List.getD [_, _, _, _, _, _, _, _, _, _, _, _, _, _, _, _] (d - 145) undef) (List.getD [_, _, _, _, _] (d - 161) undef))))) (cond (Nat.ble 293 d && Nat.ble d 294) (List.getD [_, _] (d - 293) undef) (v d)))), ⟨rfl, h4, c1, en, n' + 1, _, _, _, r', Nat.le_refl _, by omega, hP.skipped hmD hpD, HP2.out, by rw [← HSC.out, HR.out]; simp⟩, rfl⟩)
      · have d1 : ((s[k].toNat : Int) == 92) = false := by rw [hc]; rfl
        have d2 : ((s[k].toNat : Int) == 96) = false := by rw [hc]; rfl
        have d3 : ((s[k].toNat : Int) == 60) = false := by rw [hc]; rfl
        have d4 : ((s[k].toNat : Int) == 91) = false := by rw [hc]; rfl
        have d5 : ((s[k].toNat : Int) == 33) = false := by rw [hc]; rfl
        have d6 : ((s[k].toNat : Int) == 95) = false := by rw [hc]; rfl
        have d7 : ((s[k].toNat : Int) == 42) = false := by rw [hc]; rfl
        have d8 : ((s[k].toNat : Int) == 46) = false := by rw [hc]; rfl
        have d9 : ((s[k].toNat : Int) == 45) = false := by rw [hc]; rfl
        have d10 : ((s[k].toNat : Int) == 34) = false := by rw [hc]; rfl
        have d11 : ((s[k].toNat : Int) == 39) = false := by rw [hc]; rfl
        have d12 : ((s[k].toNat : Int) == 126) = false := by rw [hc]; rfl
        have d13 : ((s[k].toNat : Int) == 10) = true := by rw [hc]; rfl
        clear hc
        go_wp2_with fail
        refine (HCALL.out bp _ wr hh.at_).mono ?_
        rintro e' wA ⟨b, c1, rfl, hmA, hpA, hbn, hbA⟩
        have hbn2 := Nat.le_trans hh.mods.size hbn
        have hhA : Held w wA bp { p with corner := c1 } s e n lv xs pcs := hh.cornered hmA hpA
        clear hmA hpA hh
        go_wp2_with fail
        refine (emit_held hhA st h1 (by omega) (by omega) (by omega)).mono ?_
        rintro e' wB ⟨rfl, n', lv', xs', hn', hmB, hB⟩
        have hbB := hbA.keep hmB (pcs_safe hhA.at_ hhA.row b _ _ hbA HOK.out.bty_is)
        have hnn : n' ≤ st ∨ n' = n := by
          have e1 := hB.pcs.length
          have e2 := hB.row.1
          have e3 := hhA.pcs.length
          have e4 := hhA.row.1
          rw [List.length_append] at e1
          by_cases hlt : e < st
          · left; omega
          · rw [if_neg hlt] at e1
            right
            simp at e1
            omega
        have k9 := hB.at_.list
        have hl9 := hB.at_.lt
        clear hmB hbA hhA
        go_wp2_with (at_builtin; refine ap_inl rfl (.tmp 147) (.tmp 149) rfl lv' n' xs' rfl (hB.row.alloc _) wB.heap.size 1 _ (.pointer (some ⟨b, 0, none⟩)) rfl ((Blk.newAt _ _ rfl).cell 0) (by omega) ?_)
        intro g cap wC hown1 hgrow hloc
        obtain ⟨k9', f9', hl9'⟩ := hB.push_at hgrow
        have hP := hB.push hown1 hgrow hloc HOK.out hbn2 hbB
        clear hgrow hloc hown1 k9 hl9
        go_wp2_with fail
        refine (skip_any bp _ _ _ hP.at_).mono ?_
        rintro e' wD ⟨rfl, hmD, hpD⟩
        go_wp2_with fail
        exact Handed.intro (s.size - en) (by omega) (hJ _ _ _ ⟨en, (fun d => cond (Nat.ble 9 d && Nat.ble d 15) (List.getD [_, _, _, _, _, _, _] (d - 9) undef) (cond (Nat.ble 33 d && Nat.ble d 165) (cond (Nat.ble d 96) (cond (Nat.ble d 64) (cond (Nat.ble d 48) (List.getD [_, _, _, _, _, _, _, _, _, _, _, _, _, _, _, _] (d - 33) undef) (List.getD [_, _, _, _, _, _, _, _, _, _, _, _, _, _, _, _] (d - 49) undef)) (cond (Nat.ble d 80) (List.getD [_, _, _, _, _, _, _, _, _, _, _, _, _, _, _, _] (d - 65) undef) (List.getD [_, _, _, _, _, _, _, _, _, _, _, _, _, _, _, _] (d - 81) undef))) (cond (Nat.ble d 128) (cond (Nat.ble d 112) (List.getD [_, _, _, _, _, _, _, _, _, _, _, _, _, _, _, _] (d - 97) undef) (List.getD [_, _, _, _, _, _, _, _, _, _, _, _, _, _, _, _] (d - 113) undef)) (cond (Nat.ble d 144) (List.getD [_, _, _, _, _, _, _, _, _, _, _, _, _, _, _, _] (d - 129) undef) (cond (Nat.ble d 160) (List.getD [_, _, _, _, _, _, _, _, _, _, _, _, _, _, _, _] (d - 145) undef) (List.getD [_, _, _, _, _] (d - 161) undef))))) (cond (Nat.ble 293 d && Nat.ble d 294) (List.getD [_, _] (d - 293) undef) (v d)))), ⟨rfl, h4, c1, en, n' + 1, _, _, _, r', Nat.le_refl _, by omega, hP.skipped hmD hpD, HP2.out, by rw [← HSC.out, HR.out]; simp⟩, rfl⟩)
      · have d1 : ((s[k].toNat : Int) == 92) = false := by rw [hc]; rfl
        have d2 : ((s[k].toNat : Int) == 96) = false := by rw [hc]; rfl
        have d3 : ((s[k].toNat : Int) == 60) = false := by rw [hc]; rfl
        have d4 : ((s[k].toNat : Int) == 91) = false := by rw [hc]; rfl
        have d5 : ((s[k].toNat : Int) == 33) = false := by rw [hc]; rfl
        have d6 : ((s[k].toNat : Int) == 95) = false := by rw [hc]; rfl
        have d7 : ((s[k].toNat : Int) == 42) = false := by rw [hc]; rfl
        have d8 : ((s[k].toNat : Int) == 46) = false := by rw [hc]; rfl
        have d9 : ((s[k].toNat : Int) == 45) = false := by rw [hc]; rfl
        have d10 : ((s[k].toNat : Int) == 34) = false := by rw [hc]; rfl
        have d11 : ((s[k].toNat : Int) == 39) = false := by rw [hc]; rfl
        have d12 : ((s[k].toNat : Int) == 126) = true := by rw [hc]; rfl
        rw [ho] at o1
        clear hc
        go_wp2_with fail
        refine (HCALL.out bp _ wr hh.at_).mono ?_
        rintro e' wA ⟨b, c1, rfl, hmA, hpA, hbn, hbA⟩
        have hbn2 := Nat.le_trans hh.mods.size hbn
        have hhA : Held w wA bp { p with corner := c1 } s e n lv xs pcs := hh.cornered hmA hpA
        clear hmA hpA hh
        go_wp2_with fail
        refine (emit_held hhA st h1 (by omega) (by omega) (by omega)).mono ?_
        rintro e' wB ⟨rfl, n', lv', xs', hn', hmB, hB⟩
        have hbB := hbA.keep hmB (pcs_safe hhA.at_ hhA.row b _ _ hbA HOK.out.bty_is)
        have hnn : n' ≤ st ∨ n' = n := by
          have e1 := hB.pcs.length
          have e2 := hB.row.1
          have e3 := hhA.pcs.length
          have e4 := hhA.row.1
          rw [List.length_append] at e1
          by_cases hlt : e < st
          · left; omega
          · rw [if_neg hlt] at e1
            right
            simp at e1
            omega
        have k9 := hB.at_.list
        have hl9 := hB.at_.lt
        clear hmB hbA hhA
        go_wp2_with (at_builtin; refine ap_inl rfl (.tmp 147) (.tmp 149) rfl lv' n' xs' rfl (hB.row.alloc _) wB.heap.size 1 _ (.pointer (some ⟨b, 0, none⟩)) rfl ((Blk.newAt _ _ rfl).cell 0) (by omega) ?_)
        intro g cap wC hown1 hgrow hloc
        obtain ⟨k9', f9', hl9'⟩ := hB.push_at hgrow
        have hP := hB.push hown1 hgrow hloc HOK.out hbn2 hbB
        clear hgrow hloc hown1 k9 hl9
        go_wp2_with fail
        refine (skip_any bp _ _ _ hP.at_).mono ?_
        rintro e' wD ⟨rfl, hmD, hpD⟩
        go_wp2_with fail
        exact Handed.intro (s.size - en) (by omega) (hJ _ _ _ ⟨en, (fun d => cond (Nat.ble 9 d && Nat.ble d 15) (List.getD [_, _, _, _, _, _, _] (d - 9) undef) (cond (Nat.ble 33 d && Nat.ble d 165) (cond (Nat.ble d 96) (cond (Nat.ble d 64) (cond (Nat.ble d 48) (List.getD [_, _, _, _, _, _, _, _, _, _, _, _, _, _, _, _] (d - 33) undef) (List.getD [_, _, _, _, _, _, _, _, _, _, _, _, _, _, _, _] (d - 49) undef)) (cond (Nat.ble d 80) (List.getD [_, _, _, _, _, _, _, _, _, _, _, _, _, _, _, _] (d - 65) undef) (List.getD [_, _, _, _, _, _, _, _, _, _, _, _, _, _, _, _] (d - 81) undef))) (cond (Nat.ble d 128) (cond (Nat.ble d 112) (List.getD [_, _, _, _, _, _, _, _, _, _, _, _, _, _, _, _] (d - 97) undef) (List.getD [_, _, _, _, _, _, _, _, _, _, _, _, _, _, _, _] (d - 113) undef)) (cond (Nat.ble d 144) (List.getD [_, _, _, _, _, _, _, _, _, _, _, _, _, _, _, _] (d - 129) undef) (cond (Nat.ble d 160) (List.getD [_, _, _, _, _, _, _, _, _, _, _, _, _, _, _, _] (d - 145) undef) (List.getD [_, _, _, _, _] (d - 161) undef))))) (cond (Nat.ble 293 d && Nat.ble d 294) (List.getD [_, _] (d - 293) undef) (v d)))), ⟨rfl, h4, c1, en, n' + 1, _, _, _, r', Nat.le_refl _, by omega, hP.skipped hmD hpD, HP2.out, by rw [← HSC.out, HR.out]; simp⟩, rfl⟩)
      · have d1 : ((s[k].toNat : Int) == 92) = false := by rw [hc]; rfl
        have d2 : ((s[k].toNat : Int) == 96) = false := by rw [hc]; rfl
        have d3 : ((s[k].toNat : Int) == 60) = false := by rw [hc]; rfl
        have d4 : ((s[k].toNat : Int) == 91) = false := by rw [hc]; rfl
        have d5 : ((s[k].toNat : Int) == 33) = false := by rw [hc]; rfl
        have d6 : ((s[k].toNat : Int) == 95) = false := by rw [hc]; rfl
        have d7 : ((s[k].toNat : Int) == 42) = false := by rw [hc]; rfl
        have d8 : ((s[k].toNat : Int) == 46) = false := by rw [hc]; rfl
        have d9 : ((s[k].toNat : Int) == 45) = false := by rw [hc]; rfl
        have d10 : ((s[k].toNat : Int) == 34) = true := by rw [hc]; rfl
        rw [ho] at o9
        clear hc
        go_wp2_with fail
        refine (HCALL.out bp _ wr hh.at_).mono ?_
        rintro e' wA ⟨b, c1, rfl, hmA, hpA, hbn, hbA⟩
        have hbn2 := Nat.le_trans hh.mods.size hbn
        have hhA : Held w wA bp { p with corner := c1 } s e n lv xs pcs := hh.cornered hmA hpA
        clear hmA hpA hh
        go_wp2_with fail
        refine (emit_held hhA st h1 (by omega) (by omega) (by omega)).mono ?_
        rintro e' wB ⟨rfl, n', lv', xs', hn', hmB, hB⟩
        have hbB := hbA.keep hmB (pcs_safe hhA.at_ hhA.row b _ _ hbA HOK.out.bty_is)
        have hnn : n' ≤ st ∨ n' = n := by
          have e1 := hB.pcs.length
          have e2 := hB.row.1
          have e3 := hhA.pcs.length
          have e4 := hhA.row.1
          rw [List.length_append] at e1
          by_cases hlt : e < st
          · left; omega
          · rw [if_neg hlt] at e1
            right
            simp at e1
            omega
        have k9 := hB.at_.list
        have hl9 := hB.at_.lt
        clear hmB hbA hhA
        go_wp2_with (at_builtin; refine ap_inl rfl (.tmp 147) (.tmp 149) rfl lv' n' xs' rfl (hB.row.alloc _) wB.heap.size 1 _ (.pointer (some ⟨b, 0, none⟩)) rfl ((Blk.newAt _ _ rfl).cell 0) (by omega) ?_)
        intro g cap wC hown1 hgrow hloc
        obtain ⟨k9', f9', hl9'⟩ := hB.push_at hgrow
        have hP := hB.push hown1 hgrow hloc HOK.out hbn2 hbB
        clear hgrow hloc hown1 k9 hl9
        go_wp2_with fail
        refine (skip_any bp _ _ _ hP.at_).mono ?_
        rintro e' wD ⟨rfl, hmD, hpD⟩
        go_wp2_with fail
        exact Handed.intro (s.size - en) (by omega) (hJ _ _ _ ⟨en, (fun d => cond (Nat.ble 9 d && Nat.ble d 15) (List.getD [_, _, _, _, _, _, _] (d - 9) undef) (cond (Nat.ble 33 d && Nat.ble d 165) (cond (Nat.ble d 96) (cond (Nat.ble d 64) (cond (Nat.ble d 48) (List.getD [_, _, _, _, _, _, _, _, _, _, _, _, _, _, _, _] (d - 33) undef) (List.getD [_, _, _, _, _, _, _, _, _, _, _, _, _, _, _, _] (d - 49) undef)) (cond (Nat.ble d 80) (List.getD [_, _, _, _, _, _, _, _, _, _, _, _, _, _, _, _] (d - 65) undef) (List.getD [_, _, _, _, _, _, _, _, _, _, _, _, _, _, _, _] (d - 81) undef))) (cond (Nat.ble d 128) (cond (Nat.ble d 112) (List.getD [_, _, _, _, _, _, _, _, _, _, _, _, _, _, _, _] (d - 97) undef) (List.getD [_, _, _, _, _, _, _, _, _, _, _, _, _, _, _, _] (d - 113) undef)) (cond (Nat.ble d 144) (List.getD [_, _, _, _, _, _, _, _, _, _, _, _, _, _, _, _] (d - 129) undef) (cond (Nat.ble d 160) (List.getD [_, _, _, _, _, _, _, _, _, _, _, _, _, _, _, _] (d - 145) undef) (List.getD [_, _, _, _, _] (d - 161) undef))))) (cond (Nat.ble 293 d && Nat.ble d 294) (List.getD [_, _] (d - 293) undef) (v d)))), ⟨rfl, h4, c1, en, n' + 1, _, _, _, r', Nat.le_refl _, by omega, hP.skipped hmD hpD, HP2.out, by rw [← HSC.out, HR.out]; simp⟩, rfl⟩)
      · have d1 : ((s[k].toNat : Int) == 92) = false := by rw [hc]; rfl
        have d2 : ((s[k].toNat : Int) == 96) = false := by rw [hc]; rfl
        have d3 : ((s[k].toNat : Int) == 60) = false := by rw [hc]; rfl
        have d4 : ((s[k].toNat : Int) == 91) = false := by rw [hc]; rfl
        have d5 : ((s[k].toNat : Int) == 33) = false := by rw [hc]; rfl
        have d6 : ((s[k].toNat : Int) == 95) = false := by rw [hc]; rfl
        have d7 : ((s[k].toNat : Int) == 42) = false := by rw [hc]; rfl
        have d8 : ((s[k].toNat : Int) == 46) = false := by rw [hc]; rfl
        have d9 : ((s[k].toNat : Int) == 45) = false := by rw [hc]; rfl
        have d10 : ((s[k].toNat : Int) == 34) = false := by rw [hc]; rfl
        have d11 : ((s[k].toNat : Int) == 39) = true := by rw [hc]; rfl
        rw [ho] at o9
        clear hc
        go_wp2_with fail
        refine (HCALL.out bp _ wr hh.at_).mono ?_
        rintro e' wA ⟨b, c1, rfl, hmA, hpA, hbn, hbA⟩
        have hbn2 := Nat.le_trans hh.mods.size hbn
        have hhA : Held w wA bp { p with corner := c1 } s e n lv xs pcs := hh.cornered hmA hpA
        clear hmA hpA hh
        go_wp2_with fail
        refine (emit_held hhA st h1 (by omega) (by omega) (by omega)).mono ?_
        rintro e' wB ⟨rfl, n', lv', xs', hn', hmB, hB⟩
        have hbB := hbA.keep hmB (pcs_safe hhA.at_ hhA.row b _ _ hbA HOK.out.bty_is)
        have hnn : n' ≤ st ∨ n' = n := by
          have e1 := hB.pcs.length
          have e2 := hB.row.1
          have e3 := hhA.pcs.length
          have e4 := hhA.row.1
          rw [List.length_append] at e1
          by_cases hlt : e < st
          · left; omega
          · rw [if_neg hlt] at e1
            right
            simp at e1
            omega
        have k9 := hB.at_.list
        have hl9 := hB.at_.lt
        clear hmB hbA hhA
        go_wp2_with (at_builtin; refine ap_inl rfl (.tmp 147) (.tmp 149) rfl lv' n' xs' rfl (hB.row.alloc _) wB.heap.size 1 _ (.pointer (some ⟨b, 0, none⟩)) rfl ((Blk.newAt _ _ rfl).cell 0) (by omega) ?_)
        intro g cap wC hown1 hgrow hloc
        obtain ⟨k9', f9', hl9'⟩ := hB.push_at hgrow
        have hP := hB.push hown1 hgrow hloc HOK.out hbn2 hbB
        clear hgrow hloc hown1 k9 hl9
        go_wp2_with fail
        refine (skip_any bp _ _ _ hP.at_).mono ?_
        rintro e' wD ⟨rfl, hmD, hpD⟩
        go_wp2_with fail
        exact Handed.intro (s.size - en) (by omega) (hJ _ _ _ ⟨en, (fun d => cond (Nat.ble 9 d && Nat.ble d 15) (List.getD [_, _, _, _, _, _, _] (d - 9) undef) (cond (Nat.ble 33 d && Nat.ble d 165) (cond (Nat.ble d 96) (cond (Nat.ble d 64) (cond (Nat.ble d 48) (List.getD [_, _, _, _, _, _, _, _, _, _, _, _, _, _, _, _] (d - 33) undef) (List.getD [_, _, _, _, _, _, _, _, _, _, _, _, _, _, _, _] (d - 49) undef)) (cond (Nat.ble d 80) (List.getD [_, _, _, _, _, _, _, _, _, _, _, _, _, _, _, _] (d - 65) undef) (List.getD [_, _, _, _, _, _, _, _, _, _, _, _, _, _, _, _] (d - 81) undef))) (cond (Nat.ble d 128) (cond (Nat.ble d 112) (List.getD [_, _, _, _, _, _, _, _, _, _, _, _, _, _, _, _] (d - 97) undef) (List.getD [_, _, _, _, _, _, _, _, _, _, _, _, _, _, _, _] (d - 113) undef)) (cond (Nat.ble d 144) (List.getD [_, _, _, _, _, _, _, _, _, _, _, _, _, _, _, _] (d - 129) undef) (cond (Nat.ble d 160) (List.getD [_, _, _, _, _, _, _, _, _, _, _, _, _, _, _, _] (d - 145) undef) (List.getD [_, _, _, _, _] (d - 161) undef))))) (cond (Nat.ble 293 d && Nat.ble d 294) (List.getD [_, _] (d - 293) undef) (v d)))), ⟨rfl, h4, c1, en, n' + 1, _, _, _, r', Nat.le_refl _, by omega, hP.skipped hmD hpD, HP2.out, by rw [← HSC.out, HR.out]; simp⟩, rfl⟩)
    · have w1 : ¬ ((k : Int) < s.size) := by omega
      have HSC := Lib.hid hsc
      have hend : pcs ++ (if e < s.size then [Pc.plain (s.extract e s.size)] else []) = all := by rw [← hsc]; rw [hk] at hpl; rw [plan_end hpl]
      have HEND := Lib.hid hend
      have HK := Lib.hid hk
      clear hsc hk hpl hend
      go_wp2_with fail
      refine (emit_held hh s.size (by have := HK.out; omega) (Nat.le_refl _) (by omega) (by omega)).mono ?_
      rintro e' wB ⟨rfl, n', lv', xs', hn', hmB, hB⟩
      rw [HEND.out] at hB
      have hn0 : 0 < n' := by
        have h1 := hB.pcs.length
        have h2 := hB.row.1
        have h4 : all.length ≠ 0 := fun h => HNE.out (List.length_eq_zero_iff.1 h)
        omega
      have hnk : n' ≤ s.size + 1 := by have := HK.out; omega
      obtain ⟨gl, cap, rfl, _, _, _⟩ := ownsRow_form hB.row hn0
      have hOB : Opt wB p 3 false := hO.keep hB.mods hpb
      have hpl9 : p.parser < w.heap.size := World.block_lt_of_cell? _ _ hO.cell
      have HE : ∀ W, Same wB W → Calls Tryz.prog 117 #[.pointer (some ⟨bp, 0, none⟩), .slice (some ⟨gl, 0, none⟩) 0 cap, .slice (some ⟨gl, 0, none⟩) n' cap] W fun e W' => ∃ g2 n2 cap2, e = .returned (.slice (some ⟨g2, 0, none⟩) n2 cap2) ∧ Mid w W' bp p s c0 ∧ P1 W' g2 n2 cap2 ∧
          (∃ v, W'.cell? ⟨bp, 9, none⟩ = some v) ∧ W'.frozen? ⟨bp, 9, none⟩ = false ∧ bp < W'.heap.size := fun W hW =>
        (hEm W gl n' cap xs' c0 (hB.same hW) hn0 hnk).mono fun e W' ⟨g2, n2, cap2, h1, h2, h3⟩ => by
          obtain ⟨l, e2, h4⟩ := h2.at_
          exact ⟨g2, n2, cap2, h1, h2, h3, ⟨_, h4.list⟩, h4.fr 9, h4.lt⟩
      have k9 := hB.at_.list
      have f9 := hB.at_.fr 9
      have hl9 := hB.at_.lt
      have hcap : (0 : Int) ≤ cap := by omega
      have hS0 : Same wB wB := Mods.refl _ _
      go_wp2_with fail
      go_region_with ((go_at_call 117; refine (HE _ (by repeat (first | assumption | apply Mods.drew))).mono ?_; rintro e' wC ⟨g2, n2, cap2, rfl, hMC, hPC, ⟨v9, k9'⟩, f9', hl9'⟩))
      all_goals
        obtain ⟨hMD, hmD, k9D⟩ := hMC.set9 (.slice (some ⟨g2, 0, none⟩) n2 cap2)
        have hPD := hP1 _ _ _ _ _ _ hPC (calm_ps hMC.at_.choose_spec.choose_spec) hmD
        obtain ⟨_, _, hpD⟩ := hMD.at_
        generalize (World.setCell wC _ _ : World) = wD at hMD hPD k9D hpD ⊢
        clear k9' f9' hl9' k9 f9 hl9 hMC hPC hmD
        have f9 := hpD.fr 9
        have hl9 := hpD.lt
        clear hpD
        go_wp2_with fail
        refine (hMe wD g2 n2 cap2 c0 hMD hPD).mono ?_
        rintro e' wE ⟨g3, n3, cap3, rfl, hME, hPE⟩
        obtain ⟨_, _, hpE⟩ := hME.at_
        clear f9 hl9 k9D
        have k9 := hpE.list
        have f9 := hpE.fr 9
        have hl9 := hpE.lt
        obtain ⟨hMF, hmF, k9F⟩ := hME.set9 (.slice (some ⟨g3, 0, none⟩) n3 cap3)
        have hPF := hP2 _ _ _ _ _ _ hPE (calm_ps hpE) hmF
        clear hpE
        go_wp2_with fail
        obtain ⟨_, _, hpF⟩ := hMF.at_
        generalize (World.setCell wE _ _ : World) = wF at hMF hPF k9F hpF ⊢
        have hOF : Opt wF p 3 false := hO.keep hMF.mods hpb
        refine (autoLinkText_off bp _ _ wF hpF hOF).mono ?_
        rintro e' wG ⟨rfl, rfl⟩
        clear k9 f9 hl9
        have f9 := hpF.fr 9
        have hl9 := hpF.lt
        obtain ⟨hMG, hmG, k9G⟩ := hMF.set9 (.slice (some ⟨g3, 0, none⟩) n3 cap3)
        have hPG := hP2 _ _ _ _ _ _ hPF (calm_ps hpF) hmG
        clear hpF hmG
        go_wp2_with fail
        go_ret
        exact ⟨g3, n3, cap3, c0, rfl, hMG, hPG⟩
end Go.Proofs.YtmmopoofheblbaaGreatDoor.G
