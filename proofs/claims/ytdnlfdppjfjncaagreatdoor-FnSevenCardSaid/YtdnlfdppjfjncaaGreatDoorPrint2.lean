/- zzPairs.WriteString of the HTML escaper's table. -/
import Derived.Test.YtdnlfdppjfjncaaGreatDoorPrint
import Derived.Test.YtdnlfdppjfjncaaGreatDoorPlain
namespace Go.Proofs.YtdnlfdppjfjncaaGreatDoor
open Go Go.RowKit Go.Proofs

def escN (s : ByteArray) (i : Nat) : List UInt8 := (s.data.toList.take i).flatMap escB

theorem blk_others {w w' : World} {k b T : Nat} {cs : Array Value} (h : Blk w k cs T) (ho : Lib.OthersKept 5 (some b) w w') (hk : k ≠ b) (hT : T ≠ 5) : Blk w' k cs T :=
  ho k _ h (fun e => hk (Option.some.inj e)) (fun c fz e => by cases e; exact hT rfl)

/-- The buffer, and what a writer leaves. -/
structure Wrote (w w' : World) (B b : Nat) (l : List UInt8) : Prop where
  buf : Lib.IsBuffer 72 5 B b (Lib.byteCells l) w'
  below : Below B w w'
  others : Lib.OthersKept 5 (some b) w w'

theorem Wrote.trans {a c d : World} {B b : Nat} {l m : List UInt8} (h : Wrote a c B b l) (k : Wrote c d B b m) : Wrote a d B b m := ⟨k.buf, h.below.trans k.below, h.others.trans k.others⟩

theorem write_string (B b : Nat) (l : List UInt8) (s : ByteArray) (w : World) (h : Lib.IsBuffer 72 5 B b (Lib.byteCells l) w) (hB : B ≤ w.heap.size) (hl : l.length ≤ 100000000) (hs : s.size ≤ 100000000) :
    Calls Tryz.prog 253 #[.pointer (some ⟨b, 0, none⟩), .string s] w fun e w' => e = .returned (.tuple #[.int .i64 s.size, .nilIface]) ∧ Wrote w w' B b (l ++ s.data.toList) := by
  have hlen : (Lib.byteCells l).length = l.length := by simp [Lib.byteCells]
  refine (Tryz.Buffer_WriteString_k B b _ s w h hB (Lib.byteCells_one _) (by omega)).mono ?_
  rintro e w' ⟨h1, h2, h3, h4⟩
  exact ⟨h1, by rw [Lib.byteCells_append]; exact h2, h3, h4⟩

theorem write_byte (B b : Nat) (l : List UInt8) (c : UInt8) (w : World) (h : Lib.IsBuffer 72 5 B b (Lib.byteCells l) w) (hB : B ≤ w.heap.size) (hl : l.length ≤ 100000000) :
    Calls Tryz.prog 267 #[.pointer (some ⟨b, 0, none⟩), .int .u8 c.toNat] w fun e w' => e = .returned .nilIface ∧ Wrote w w' B b (l ++ [c]) := by
  have hlen : (Lib.byteCells l).length = l.length := by simp [Lib.byteCells]
  refine (Tryz.Buffer_WriteByte_k B b _ _ w h hB (Lib.byteCells_one _) (by omega)).mono ?_
  rintro e w' ⟨h1, h2, h3, h4⟩
  exact ⟨h1, by simpa [Lib.byteCells] using h2, h3, h4⟩

theorem Wrote.drewN {w w1 : World} {B b : Nat} {l : List UInt8} (h : Wrote w w1 B b l) (n : Nat) : Wrote w (w1.drewN n) B b l :=
  ⟨h.buf, ⟨h.below.os, h.below.tape, h.below.output, h.below.size, h.below.block⟩, h.others⟩

theorem escN_succ (s : ByteArray) (i : Nat) (h : i < s.size) : escN s (i + 1) = escN s i ++ escB s[i] := by
  unfold escN
  have h' : i < s.data.toList.length := by simpa using h
  rw [List.take_succ_eq_append_getElem h', List.flatMap_append]
  simp
  rfl

theorem escN_len (s : ByteArray) : ∀ i, i ≤ s.size → (escN s i).length ≤ 6 * i
  | 0, _ => by simp [escN]
  | i + 1, h => by
    have h1 := escN_len s i (by omega)
    rw [escN_succ s i (by omega), List.length_append]
    have : (escB (s[i]'(by omega))).length ≤ 6 := by
      unfold escB
      repeat' split
      all_goals simp
    omega

theorem escN_bound {l : List UInt8} {s : ByteArray} {i : Nat} (hl : l.length ≤ 10000000) (hi : i ≤ s.size) (hs : s.size ≤ 1000000) : (l ++ escN s i).length ≤ 100000000 := by
  have := escN_len s i hi
  rw [List.length_append]
  omega

theorem ne_byte {c : UInt8} {k : Nat} (h : c ≠ UInt8.ofNat k) : ((c.toNat : Int) == ((UInt8.ofNat k).toNat : Int)) = false :=
  beq_eq_false_iff_ne.2 (fun he => h (UInt8.toNat_inj.1 (by omega)))

set_option maxRecDepth 100000 in
set_option maxHeartbeats 8000000 in
theorem esc_write (B b K : Nat) (l : List UInt8) (s : ByteArray) (w : World) (h : Lib.IsBuffer 72 5 B b (Lib.byteCells l) w) (hB : B ≤ w.heap.size) (hl : l.length ≤ 10000000) (hs : s.size ≤ 1000000) (hK : Blk w K escCells 9) (hKb : K ≠ b) :
    Calls Tryz.prog 266 #[.slice (some ⟨K, 0, none⟩) 8 8, .pointer (some ⟨b, 0, none⟩), .string s] w fun e w' => e = .returned (.tuple #[]) ∧ Wrote w w' B b (l ++ escN s s.size) := by
  go_enter Tryz.func266, Tryz.ntmps266
  go_wp2_with fail
  go_step3
  go_wp2_with fail
  go_step3
  go_wp2_with fail
  go_loopg [6] s.size (fun m v6 wr => ∃ i : Nat, v6 = .int .i64 i ∧ m = s.size - i ∧ i ≤ s.size ∧ Wrote w wr B b (l ++ escN s i))
  case atStart => exact ⟨0, rfl, rfl, Nat.zero_le _, by simpa [escN] using h, Below.refl _ _, Lib.OthersKept.refl _ _ _⟩
  case round =>
    obtain ⟨i, rfl, rfl, hi, hW⟩ := hrel
    have hK1 := blk_others hK hW.others hKb (by decide)
    have HW := Lib.hid hW
    clear hW
    by_cases hlt : i < s.size
    · have w1 : (i : Int) < s.size := by omega
      have w2 : (0 : Int) ≤ i := by omega
      have w3 : IntKind.i64.wrap ((i : Int) + 1) = (i : Int) + 1 := IntWalk.i64_in _ (by omega)
      go_wp2_with fail
      go_loopg [7] 4 (fun m v7 wx => (Wrote w wx B b (l ++ escN s i) ∧ Blk wx K escCells 9) ∧ ((m = 4 ∧ v7 = .int .i64 0) ∨ (m = 3 ∧ v7 = .int .i64 2 ∧ s[i] ≠ 34) ∨ (m = 2 ∧ v7 = .int .i64 4 ∧ s[i] ≠ 34 ∧ s[i] ≠ 38) ∨ (m = 1 ∧ v7 = .int .i64 6 ∧ s[i] ≠ 34 ∧ s[i] ≠ 38 ∧ s[i] ≠ 60) ∨ (m = 0 ∧ v7 = .int .i64 8 ∧ s[i] ≠ 34 ∧ s[i] ≠ 38 ∧ s[i] ≠ 60 ∧ s[i] ≠ 62)))
      case atStart => exact ⟨⟨HW.out, hK1⟩, Or.inl ⟨rfl, rfl⟩⟩
      case round =>
        clear HW hK1
        obtain ⟨⟨hW2, hK2⟩, hr⟩ := hrel
        have HW := Lib.hid hW2
        clear hW2
        have k0 : wr.cell? ⟨K, 0, none⟩ = some (.string ⟨#[34]⟩) := hK2.cell 0
        have k1 : wr.cell? ⟨K, 1, none⟩ = some (.string ⟨#[38, 113, 117, 111, 116, 59]⟩) := hK2.cell 1
        have k2 : wr.cell? ⟨K, 2, none⟩ = some (.string ⟨#[38]⟩) := hK2.cell 2
        have k3 : wr.cell? ⟨K, 3, none⟩ = some (.string ⟨#[38, 97, 109, 112, 59]⟩) := hK2.cell 3
        have k4 : wr.cell? ⟨K, 4, none⟩ = some (.string ⟨#[60]⟩) := hK2.cell 4
        have k5 : wr.cell? ⟨K, 5, none⟩ = some (.string ⟨#[38, 108, 116, 59]⟩) := hK2.cell 5
        have k6 : wr.cell? ⟨K, 6, none⟩ = some (.string ⟨#[62]⟩) := hK2.cell 6
        have k7 : wr.cell? ⟨K, 7, none⟩ = some (.string ⟨#[38, 103, 116, 59]⟩) := hK2.cell 7
        rcases hr with ⟨rfl, rfl⟩ | ⟨rfl, rfl, n1⟩ | ⟨rfl, rfl, n1, n2⟩ | ⟨rfl, rfl, n1, n2, n3⟩ | ⟨rfl, rfl, n1, n2, n3, n4⟩
        · have z : (((⟨#[34]⟩ : ByteArray)[0]'(by decide)).toNat : Int) = 34 := rfl
          by_cases hc : s[i] = 34
          · have hcb : ((s[i].toNat : Int) == 34) = true := by rw [hc]; rfl
            have hesc : escN s (i + 1) = escN s i ++ (#[38, 113, 117, 111, 116, 59] : Array UInt8).toList := by rw [escN_succ s i hlt, hc]; rfl
            have Hc := Lib.hid hesc
            clear hc hesc
            go_wp2_with fail
            go_quiet (fail)
            go_wp2_with fail
            refine (write_string B b _ ⟨#[38, 113, 117, 111, 116, 59]⟩ _ (HW.out.drewN nq).buf (Nat.le_trans hB (HW.out.drewN nq).below.size) (escN_bound hl hi hs) (by decide)).mono ?_
            rintro e w5 ⟨rfl, hW5⟩
            go_wp2_with fail
            go_roundg (s.size - (i + 1))
            case measure => omega
            case rel => exact ⟨i + 1, by simp, rfl, by omega, by rw [Hc.out, ← List.append_assoc]; exact (HW.out.drewN nq).trans hW5⟩
          · have hcb : ((s[i].toNat : Int) == 34) = false := ne_byte hc
            have Hc := Lib.hid hc
            clear hc
            go_wp2_with fail
            go_quiet (fail)
            go_wp2_with fail
            go_roundg 3
            case measure => omega
            case rel => exact ⟨⟨HW.out.drewN nq, hK2.drewN nq⟩, Or.inr (Or.inl ⟨rfl, rfl, Hc.out⟩)⟩
        · have Hn1 := Lib.hid n1
          clear n1
          have z : (((⟨#[38]⟩ : ByteArray)[0]'(by decide)).toNat : Int) = 38 := rfl
          by_cases hc : s[i] = 38
          · have hcb : ((s[i].toNat : Int) == 38) = true := by rw [hc]; rfl
            have hesc : escN s (i + 1) = escN s i ++ (#[38, 97, 109, 112, 59] : Array UInt8).toList := by rw [escN_succ s i hlt, hc]; rfl
            have Hc := Lib.hid hesc
            clear hc hesc
            go_wp2_with fail
            go_quiet (fail)
            go_wp2_with fail
            refine (write_string B b _ ⟨#[38, 97, 109, 112, 59]⟩ _ (HW.out.drewN nq).buf (Nat.le_trans hB (HW.out.drewN nq).below.size) (escN_bound hl hi hs) (by decide)).mono ?_
            rintro e w5 ⟨rfl, hW5⟩
            go_wp2_with fail
            go_roundg (s.size - (i + 1))
            case measure => omega
            case rel => exact ⟨i + 1, by simp, rfl, by omega, by rw [Hc.out, ← List.append_assoc]; exact (HW.out.drewN nq).trans hW5⟩
          · have hcb : ((s[i].toNat : Int) == 38) = false := ne_byte hc
            have Hc := Lib.hid hc
            clear hc
            go_wp2_with fail
            go_quiet (fail)
            go_wp2_with fail
            go_roundg 2
            case measure => omega
            case rel => exact ⟨⟨HW.out.drewN nq, hK2.drewN nq⟩, Or.inr (Or.inr (Or.inl ⟨rfl, rfl, Hn1.out, Hc.out⟩))⟩
        · have Hn1 := Lib.hid n1
          have Hn2 := Lib.hid n2
          clear n1 n2
          have z : (((⟨#[60]⟩ : ByteArray)[0]'(by decide)).toNat : Int) = 60 := rfl
          by_cases hc : s[i] = 60
          · have hcb : ((s[i].toNat : Int) == 60) = true := by rw [hc]; rfl
            have hesc : escN s (i + 1) = escN s i ++ (#[38, 108, 116, 59] : Array UInt8).toList := by rw [escN_succ s i hlt, hc]; rfl
            have Hc := Lib.hid hesc
            clear hc hesc
            go_wp2_with fail
            go_quiet (fail)
            go_wp2_with fail
            refine (write_string B b _ ⟨#[38, 108, 116, 59]⟩ _ (HW.out.drewN nq).buf (Nat.le_trans hB (HW.out.drewN nq).below.size) (escN_bound hl hi hs) (by decide)).mono ?_
            rintro e w5 ⟨rfl, hW5⟩
            go_wp2_with fail
            go_roundg (s.size - (i + 1))
            case measure => omega
            case rel => exact ⟨i + 1, by simp, rfl, by omega, by rw [Hc.out, ← List.append_assoc]; exact (HW.out.drewN nq).trans hW5⟩
          · have hcb : ((s[i].toNat : Int) == 60) = false := ne_byte hc
            have Hc := Lib.hid hc
            clear hc
            go_wp2_with fail
            go_quiet (fail)
            go_wp2_with fail
            go_roundg 1
            case measure => omega
            case rel => exact ⟨⟨HW.out.drewN nq, hK2.drewN nq⟩, Or.inr (Or.inr (Or.inr (Or.inl ⟨rfl, rfl, Hn1.out, Hn2.out, Hc.out⟩)))⟩
        · have Hn1 := Lib.hid n1
          have Hn2 := Lib.hid n2
          have Hn3 := Lib.hid n3
          clear n1 n2 n3
          have z : (((⟨#[62]⟩ : ByteArray)[0]'(by decide)).toNat : Int) = 62 := rfl
          by_cases hc : s[i] = 62
          · have hcb : ((s[i].toNat : Int) == 62) = true := by rw [hc]; rfl
            have hesc : escN s (i + 1) = escN s i ++ (#[38, 103, 116, 59] : Array UInt8).toList := by rw [escN_succ s i hlt, hc]; rfl
            have Hc := Lib.hid hesc
            clear hc hesc
            go_wp2_with fail
            go_quiet (fail)
            go_wp2_with fail
            refine (write_string B b _ ⟨#[38, 103, 116, 59]⟩ _ (HW.out.drewN nq).buf (Nat.le_trans hB (HW.out.drewN nq).below.size) (escN_bound hl hi hs) (by decide)).mono ?_
            rintro e w5 ⟨rfl, hW5⟩
            go_wp2_with fail
            go_roundg (s.size - (i + 1))
            case measure => omega
            case rel => exact ⟨i + 1, by simp, rfl, by omega, by rw [Hc.out, ← List.append_assoc]; exact (HW.out.drewN nq).trans hW5⟩
          · have hcb : ((s[i].toNat : Int) == 62) = false := ne_byte hc
            have Hc := Lib.hid hc
            clear hc
            go_wp2_with fail
            go_quiet (fail)
            go_wp2_with fail
            go_roundg 0
            case measure => omega
            case rel => exact ⟨⟨HW.out.drewN nq, hK2.drewN nq⟩, Or.inr (Or.inr (Or.inr (Or.inr (⟨rfl, rfl, Hn1.out, Hn2.out, Hn3.out, Hc.out⟩))))⟩
        · have hesc : escN s (i + 1) = escN s i ++ [s[i]] := by rw [escN_succ s i hlt]; unfold escB; rw [if_neg n1, if_neg n2, if_neg n3, if_neg n4]
          have Hc := Lib.hid hesc
          clear n1 n2 n3 n4 hesc
          go_wp2_with fail
          refine (write_byte B b _ s[i] _ HW.out.buf (Nat.le_trans hB HW.out.below.size) (escN_bound hl hi hs)).mono ?_
          rintro e w5 ⟨rfl, hW5⟩
          go_wp2_with fail
          go_roundg (s.size - (i + 1))
          case measure => omega
          case rel => exact ⟨i + 1, by simp, rfl, by omega, by rw [Hc.out, ← List.append_assoc]; exact HW.out.trans hW5⟩
    · have hin : i = s.size := by omega
      have w1 : ¬ ((i : Int) < s.size) := by omega
      subst hin
      go_wp2_with fail
      go_end0
      exact ⟨rfl, HW.out⟩
end Go.Proofs.YtdnlfdppjfjncaaGreatDoor
