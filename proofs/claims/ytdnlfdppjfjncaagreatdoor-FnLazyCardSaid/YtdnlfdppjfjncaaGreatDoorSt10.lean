/- Some texts of one proof, put into one file: Frame. -/
import Derived.Test.YtdnlfdppjfjncaaGreatDoorRows
import Derived.WalkKit
import Derived.ProofKit
import Derived.OpenShut
import Derived.ShutString
import Derived.LaidMore
import Derived.LaidHandle
import Derived.LaidLaws
import Derived.Test.YtdnlfdppjfjncaaGreatDoorSt1
/- A start that meets the rows' condition on the listed variables: the heap that the start-up leaves, the pinned table laid. -/
namespace Go.Proofs.YtdnlfdppjfjncaaGreatDoor
open Go Go.ChangeShapes Go.WideShapes Go.ChangeAt Go.RowKit

theorem knob : ownKnob Tryz.prog.godebug = none := by kernel_rfl

def laid8 : List (String × DataW Unit) := Rows.fnEscapedRow.laid

/-- The start. -/
noncomputable def laidW (os : Os) : World :=
  let w0 := World.doorLaid Tryz.prog 4000 os
  { w0 with heap := w0.heap.modify 2 fun
      | .cells _ t frozen => .cells (Pinned.utf8FirstZ.map fun z => Value.int .u8 (z : Nat)).toArray t frozen
      | o => o }
theorem laidW_met (os : Os) (args : Array Value) : laidMetH Tryz.prog laid8 ((laidW os).forCall (fun _ _ => 0) ⟨#[], args, []⟩).memory :=
  laidMetH_of_parts3 (fuel := 8) (laidMet_of_run' 8 (by kernel_rfl) (by kernel_rfl)) (by kernel_rfl) (by kernel_rfl)

theorem Mods.kept {S : Nat → Prop} {w w' : World} (h : Mods S w w') (hS : ∀ k, ¬ S k) (may : MemPlace → Prop) : w.keptBut w' may := by
  refine ⟨h.os, h.output, fun i hi => ?_⟩
  rw [h.block i hi (hS i)]
  cases w.heap[i]? with
  | none => rfl
  | some o =>
    cases o with
    | cells c t fr => exact ⟨rfl, rfl, rfl, fun _ _ => rfl⟩
    | map es ck => exact Or.inr ⟨rfl, rfl⟩
    | _ => rfl
end Go.Proofs.YtdnlfdppjfjncaaGreatDoor
