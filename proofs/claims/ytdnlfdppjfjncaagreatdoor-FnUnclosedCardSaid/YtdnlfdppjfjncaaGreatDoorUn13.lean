/- Some texts of one proof, put into one file: Frame, FrameE. -/
import Derived.Test.YtdnlfdppjfjncaaGreatDoorRows
import Derived.WalkKit
import Derived.ProofKit
import Derived.OpenShut
import Derived.ShutString
import Derived.LaidMore
import Derived.LaidHandle
import Derived.LaidLaws
import Derived.Lib.LaidU8
import Derived.LaidSub
import Derived.Test.YtdnlfdppjfjncaaGreatDoorFn1
import Derived.Test.YtdnlfdppjfjncaaGreatDoorFn9
/- A start that meets the rows' condition on the listed variables: the heap that the start-up leaves, the pinned table laid. -/
namespace Go.Proofs.YtdnlfdppjfjncaaGreatDoor
open Go Go.ChangeShapes Go.WideShapes Go.ChangeAt Go.RowKit

theorem knob : ownKnob Tryz.prog.godebug = none := by kernel_rfl

def laid8 : List (String × DataW Unit) := Rows.fnEscapedRow.laid

/-- The start. -/
noncomputable def laidW (os : Os) : World :=
  let w0 := World.doorLaid Tryz.prog 4000 os
  { w0 with heap := w0.heap.modify 2 fun
      | .cells _ t frozen => .cells (Pinned.utf8FirstZ.map fun z => Value.int .u8 (z : Nat)).toArray t frozen
      | o => o }
theorem laidW_met (os : Os) (args : Array Value) : laidMetH Tryz.prog laid8 ((laidW os).forCall (fun _ _ => 0) ⟨#[], args, []⟩).memory :=
  laidMetH_of_parts3 (fuel := 8) (laidMet_of_run' 8 (by kernel_rfl) (by kernel_rfl)) (by kernel_rfl) (by kernel_rfl)

theorem Mods.kept {S : Nat → Prop} {w w' : World} (h : Mods S w w') (hS : ∀ k, ¬ S k) (may : MemPlace → Prop) : w.keptBut w' may := by
  refine ⟨h.os, h.output, fun i hi => ?_⟩
  rw [h.block i hi (hS i)]
  cases w.heap[i]? with
  | none => rfl
  | some o =>
    cases o with
    | cells c t fr => exact ⟨rfl, rfl, rfl, fun _ _ => rfl⟩
    | map es ck => exact Or.inr ⟨rfl, rfl⟩
    | _ => rfl
end Go.Proofs.YtdnlfdppjfjncaaGreatDoor

/- The table of entities lies where the rows' condition on the listed variables says. -/
namespace Go.Proofs.YtdnlfdppjfjncaaGreatDoor
open Go Go.RowKit Go.Proofs

theorem ent_reads {W : World} (h : laidMetH Tryz.prog laid8 W) : EntAt W := by
  have h1 := (laidMetH_iff.1 h).1
  have hm : ("pub-paratext/pub/rscmarkdown.htmlEntities", (Rows.laid_pub_paratext_pub_rscmarkdown_htmlEntities : DataW Unit)) ∈ laid8.filter fun x => x.2.handleName?.isNone :=
    List.mem_filter.2 ⟨by unfold laid8 Rows.fnEscapedRow; simp, rfl⟩
  obtain ⟨g, t, cs, fuel, p, hg, hty, hvar, hd⟩ := Go.Lib.laidMet.reads h1 hm
  have e1 := Option.some.inj ((show Tryz.prog.globalNamed "pub-paratext/pub/rscmarkdown.htmlEntities" = some 1 by kernel_rfl).symm.trans hg)
  subst e1
  have e2 := Option.some.inj ((show (Tryz.prog.globals[1]?).map (·.type) = some 269 by kernel_rfl).symm.trans hty)
  subst e2
  have u1 : Tryz.prog.underlying 269 = some (.array 12 268) := by kernel_rfl
  have u2 : Tryz.prog.underlying 268 = some (.array 2 9) := by kernel_rfl
  have u3 : Tryz.prog.underlying 9 = some .string := by kernel_rfl
  have k1 : Tryz.prog.cellsOf 268 = 2 := by kernel_rfl
  have k2 : Tryz.prog.cellsOf 9 = 1 := by kernel_rfl
  have hlaid : (Rows.laid_pub_paratext_pub_rscmarkdown_htmlEntities : DataW Unit) = .agg (entL.map fun p => .agg [.lit (.string p.1), .lit (.string p.2)]) := rfl
  rw [hlaid] at hd
  have hstr : ∀ {fuel : Nat} {xs : List Value} {l : List UInt8} {q : List MemPlace}, DataW.trod (fun _ => ()) Tryz.prog W 0 (fun _ => true) false fuel 9 xs = some (.lit (.string l), q) → xs = [.string (strL l)] := by
    intro fuel xs l q h
    obtain ⟨s, rfl, hx, _⟩ := DataW.trod_string u3 h
    cases hx
    congr 2
  intro i pr hi
  have hi12 : i < 12 := by
    have := (List.getElem?_eq_some_iff.1 hi).1
    exact this
  obtain ⟨f1, d1, q1, hd1, hr1⟩ := Go.Lib.array_elem u1 hd i hi12
  rw [List.getElem?_map, hi] at hd1
  cases hd1
  rw [k1] at hr1
  obtain ⟨f2, d2, q2, hd2, hr2⟩ := Go.Lib.array_elem u2 hr1 0 (by decide)
  cases hd2
  obtain ⟨f3, d3, q3, hd3, hr3⟩ := Go.Lib.array_elem u2 hr1 1 (by decide)
  cases hd3
  rw [k2] at hr2 hr3
  have s2 := congrArg (·[0]?) (hstr hr2)
  have s3 := congrArg (·[0]?) (hstr hr3)
  have c2 : cs[i * 2]? = some (.string (strL pr.1)) := by
    simpa [List.getElem?_take, List.getElem?_drop] using s2
  have c3 : cs[i * 2 + 1]? = some (.string (strL pr.2)) := by
    simpa [List.getElem?_take, List.getElem?_drop] using s3
  exact ⟨(World.var?_cell hg hvar _).trans c2, (World.var?_cell hg hvar _).trans c3⟩
end Go.Proofs.YtdnlfdppjfjncaaGreatDoor
