/- Plain, Escaped, Text, Paragraph, Document to HTML. -/
import Derived.Test.YtdnlfdppjfjncaaGreatDoorPrint2
namespace Go.Proofs.YtdnlfdppjfjncaaGreatDoor
open Go Go.RowKit Go.Proofs

theorem Wrote.alloc {w w1 : World} {B b : Nat} {l : List UInt8} (h : Wrote w w1 B b l) (hB : B ≤ w.heap.size) (o : Obj) : Wrote w (w1.alloc o) B b l :=
  ⟨h.buf.alloc o, h.below.alloc (Nat.le_trans hB h.below.size) o, h.others.alloc o⟩

theorem htmlEscaper_at (w : World) (n : Nat) (hn : w.heap.size = n) :
    Calls Tryz.prog 265 #[] w fun e w' => e = .returned (.slice (some ⟨n, 0, none⟩) 8 8) ∧ w' = w.alloc (.cells escCells 9) := by
  subst hn
  exact htmlEscaper_any w

theorem plain_print (B b xb : Nat) (l : List UInt8) (t : ByteArray) (w : World) (h : Lib.IsBuffer 72 5 B b (Lib.byteCells l) w) (hB : B ≤ w.heap.size) (hl : l.length ≤ 10000000) (ht : t.size ≤ 1000000) (hX : w.cell? ⟨xb, 0, none⟩ = some (.string t)) (_hXl : xb < B) :
    Calls Tryz.prog 262 #[.pointer (some ⟨xb, 0, none⟩), .pointer (some ⟨b, 0, none⟩)] w fun e w' => e = .returned (.tuple #[]) ∧ Wrote w w' B b (l ++ escN t t.size) := by
  go_enter Tryz.func262, Tryz.ntmps262
  go_wp2_with fail
  have hbl := h.lt
  have hd : Wrote w w.drew B b l := ⟨h, ⟨rfl, rfl, rfl, Nat.le_refl _, fun _ _ => rfl⟩, (Lib.OthersKept.refl _ _ w).drew⟩
  have h0 : Wrote w (w.drew.alloc (.cells escCells 9)) B b l := Wrote.alloc hd hB _
  have hX0 : w.drew.cell? ⟨xb, 0, none⟩ = some (.string t) := hX
  have hX1 : (w.drew.alloc (.cells escCells 9)).cell? ⟨xb, 0, none⟩ = some (.string t) := by
    rw [← hX0]; exact World.cell?_of_block (Below.heap_alloc _ _ _ (World.block_lt_of_cell? _ _ hX0))
  have hK : Blk (w.drew.alloc (.cells escCells 9)) w.heap.size escCells 9 := Blk.newAt (w := w.drew) _ _ rfl
  have HW := esc_write B b w.heap.size l t _ h0.buf (Nat.le_trans hB h0.below.size) hl ht hK (by omega)
  generalize hY : (w.drew.alloc (.cells escCells 9) : World) = Y at *
  go_region_with (first
    | (go_at_call 265; refine (htmlEscaper_at w.drew w.heap.size rfl).mono ?_; rintro e w1 ⟨rfl, hw1⟩; rw [hY] at hw1; subst hw1)
    | (go_at_call 266; refine HW.mono ?_; rintro e w2 ⟨rfl, h2⟩))
  all_goals
    go_wp2_with fail
    go_end0
    exact ⟨rfl, h0.trans h2⟩
end Go.Proofs.YtdnlfdppjfjncaaGreatDoor
