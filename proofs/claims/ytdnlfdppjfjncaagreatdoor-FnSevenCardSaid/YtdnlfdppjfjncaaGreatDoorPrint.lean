/- impl.parser; the table of the HTML escaper; Document, Paragraph and Text to HTML. -/
import Derived.Test.YtdnlfdppjfjncaaGreatDoorParse
namespace Go.Proofs.YtdnlfdppjfjncaaGreatDoor
open Go Go.RowKit Go.Proofs

/-- The table of the escaper, as it lies in memory. -/
def escCells : Array Value := #[.string ⟨#[34]⟩, .string ⟨#[38, 113, 117, 111, 116, 59]⟩, .string ⟨#[38]⟩, .string ⟨#[38, 97, 109, 112, 59]⟩, .string ⟨#[60]⟩, .string ⟨#[38, 108, 116, 59]⟩, .string ⟨#[62]⟩, .string ⟨#[38, 103, 116, 59]⟩]

theorem htmlEscaper_any (w : World) :
    Calls Tryz.prog 265 #[] w fun e w' => e = .returned (.slice (some ⟨w.heap.size, 0, none⟩) 8 8) ∧ w' = w.alloc (.cells escCells 9) := by
  go_enter Tryz.func265, Tryz.ntmps265
  go_wp2_with fail
  go_ret
  exact ⟨rfl, rfl⟩

/-- What escaping makes of one byte. -/
def escB (c : UInt8) : List UInt8 := if c = 34 then [38, 113, 117, 111, 116, 59] else if c = 38 then [38, 97, 109, 112, 59] else if c = 60 then [38, 108, 116, 59] else if c = 62 then [38, 103, 116, 59] else [c]

theorem impl_parser (w : World) :
    Calls Tryz.prog 38 #[.agg #[.bool false, .bool false, .bool false, .bool false, .bool false, .bool false, .bool false, .bool false, .bool false, .bool false]] w fun e w' => ∃ pp, e = .returned (.pointer (some ⟨pp, 0, none⟩)) ∧ Same w w' ∧ w.heap.size ≤ pp ∧ Off w' pp := by
  go_enter Tryz.func38, Tryz.ntmps38
  go_wp2_with fail
  go_ret
  refine ⟨w.heap.size + 1, rfl, ((Mods.refl _ w).alloc _).alloc _, by omega, ⟨by simp, _, Blk.newAt (n := w.heap.size + 1) _ _ (by simp), fun k hk => ?_⟩⟩
  have : k = 0 ∨ k = 1 ∨ k = 2 ∨ k = 3 ∨ k = 4 ∨ k = 5 ∨ k = 6 ∨ k = 7 ∨ k = 8 ∨ k = 9 := by omega
  rcases this with rfl | rfl | rfl | rfl | rfl | rfl | rfl | rfl | rfl | rfl <;> rfl
end Go.Proofs.YtdnlfdppjfjncaaGreatDoor
