/- ToHTML of a document of one paragraph. -/
import Derived.Test.YtdnlfdppjfjncaaGreatDoorPrint5
namespace Go.Proofs.YtdnlfdppjfjncaaGreatDoor
open Go Go.RowKit Go.Proofs

set_option maxHeartbeats 4000000 in
theorem toHTML_doc (w0 : World) (rk pk tb ig ic gl n lc : Nat) (x y x' y' x2 y2 : Int) (ml : Option Nat) (s : ByteArray) (xs : List Value) (ps : List Pc)
    (hR : Blk w0 rk #[.int .i64 x2, .int .i64 y2, .slice (some ⟨ig, 0, none⟩) 1 ic, .map ml] 339) (hin : w0.ownsRow 0 68 1 (.slice (some ⟨ig, 0, none⟩) 1 ic) 1 [.iface 153 (.pointer (some ⟨pk, 0, none⟩))])
    (hP : Blk w0 pk #[.int .i64 x', .int .i64 y', .pointer (some ⟨tb, 0, none⟩)] 155)
    (hT : Blk w0 tb #[.int .i64 x, .int .i64 y, .slice (some ⟨gl, 0, none⟩) n lc, .string s] 110) (hown : w0.ownsRow 0 132 1 (.slice (some ⟨gl, 0, none⟩) n lc) n xs) (hx : PcsAt w0 xs ps) (hn : 0 < n) (hn6 : n ≤ 1000000)
    (hlim : ∀ i, ((([] : List UInt8) ++ pOpen) ++ (ps.take i).flatMap outPc).length ≤ 10000000) (hsz : ∀ t, Pc.plain t ∈ ps ∨ Pc.esc t ∈ ps → t.size ≤ 1000000) :
    Calls Tryz.prog 37 #[.iface 48 (.pointer (some ⟨rk, 0, none⟩))] w0 fun e w' => e = .returned (.string ⟨(pOpen ++ ps.flatMap outPc ++ pClose).toArray⟩) ∧ Same w0 w' := by
  have m1 := m_print_doc
  go_enter Tryz.func37, Tryz.ntmps37
  go_wp2_with fail
  have hS : Same w0 (w0.alloc (.cells #[.slice none 0 0, .int .i64 0, .int .i8 0] 72)) := (Mods.refl _ w0).alloc _
  have hF := Lib.fresh_isBuffer 72 5 w0
  generalize hW : (w0.alloc _ : World) = W at *
  refine (doc_print w0 w0.heap.size w0.heap.size rk pk tb ig ic gl n lc x y x' y' x2 y2 ml s [] xs ps W hS rfl hF hR hin hP hT hown hx hn hn6 hlim hsz).mono ?_
  rintro e w1 ⟨rfl, h1⟩
  have hS1 := Wrote.same hS rfl h1
  go_wp2_with fail
  refine (Tryz.Buffer_String w0.heap.size w0.heap.size _ w1 h1.buf).mono ?_
  rintro e w2 ⟨rfl, k, rfl⟩
  go_wp2_with fail
  go_ret
  exact ⟨rfl, hS1.drewN k⟩

def allOff : Value := .agg #[.bool false, .bool false, .bool false, .bool false, .bool false, .bool false, .bool false, .bool false, .bool false, .bool false]

set_option maxHeartbeats 4000000 in
theorem impl_HTML (s : ByteArray) (w : World) (hs : OneLine s)
    (hlim : ∀ i, ((([] : List UInt8) ++ pOpen) ++ ((scan s 0 0).take i).flatMap outPc).length ≤ 10000000) (hsz : ∀ t, Pc.plain t ∈ scan s 0 0 ∨ Pc.esc t ∈ scan s 0 0 → t.size ≤ 1000000) :
    Calls Tryz.prog 17 #[.agg #[.bool false, .bool false, .bool false, .bool false, .bool false, .bool false, .bool false, .bool false, .bool false, .bool false], .string s] w fun e w' => e = .returned (.string ⟨(pOpen ++ (scan s 0 0).flatMap outPc ++ pClose).toArray⟩) ∧ Same w w' := by
  go_enter Tryz.func17, Tryz.ntmps17
  go_wp2_with fail
  generalize hW : (w.alloc _ : World) = W
  have hm : Same w W := by subst hW; exact (Mods.refl _ w).alloc _
  clear hW
  refine (impl_parser W).mono ?_
  rintro e w1 ⟨pp, rfl, hm1, _, hO⟩
  go_wp2_with fail
  refine (parser_Parse pp s w1 hs hO).mono ?_
  rintro e w2 ⟨bp, rk, rfl, hD⟩
  obtain ⟨hm2, _, pk, tb, ig, ic, gl, n, lc, xs, a1, a2, a3, a4, a5, a6, a7, a8⟩ := hD
  go_wp2_with fail
  refine (toHTML_doc w2 rk pk tb ig ic gl n lc 1 1 1 1 0 0 none s xs (scan s 0 0) a1 a2 a3 a4 a7 a8 a5 (by have := hs.small; omega) hlim hsz).mono ?_
  rintro e w3 ⟨rfl, hm3⟩
  go_wp2_with fail
  go_ret
  exact ⟨rfl, ((hm.trans hm1).trans hm2).trans hm3⟩
end Go.Proofs.YtdnlfdppjfjncaaGreatDoor
