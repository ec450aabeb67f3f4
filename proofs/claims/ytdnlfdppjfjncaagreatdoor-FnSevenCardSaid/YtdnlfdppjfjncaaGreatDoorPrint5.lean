/- Paragraph and Document to HTML. -/
import Derived.Test.YtdnlfdppjfjncaaGreatDoorPrint4
namespace Go.Proofs.YtdnlfdppjfjncaaGreatDoor
open Go Go.RowKit Go.Proofs

def pOpen : List UInt8 := [60, 112, 62]
def pClose : List UInt8 := [60, 47, 112, 62, 10]

set_option maxHeartbeats 4000000 in
theorem para_print (w0 : World) (B b pk tb gl n lc : Nat) (x y x' y' : Int) (s : ByteArray) (l : List UInt8) (xs : List Value) (ps : List Pc) (w : World) (hS : Same w0 w) (hB : w0.heap.size = B) (h : Lib.IsBuffer 72 5 B b (Lib.byteCells l) w)
    (hP : Blk w0 pk #[.int .i64 x', .int .i64 y', .pointer (some ⟨tb, 0, none⟩)] 155)
    (hT : Blk w0 tb #[.int .i64 x, .int .i64 y, .slice (some ⟨gl, 0, none⟩) n lc, .string s] 110) (hown : w0.ownsRow 0 132 1 (.slice (some ⟨gl, 0, none⟩) n lc) n xs) (hx : PcsAt w0 xs ps) (hn : 0 < n) (hn6 : n ≤ 1000000)
    (hlim : ∀ i, ((l ++ pOpen) ++ (ps.take i).flatMap outPc).length ≤ 10000000) (hsz : ∀ t, Pc.plain t ∈ ps ∨ Pc.esc t ∈ ps → t.size ≤ 1000000) :
    Calls Tryz.prog 282 #[.pointer (some ⟨pk, 0, none⟩), .pointer (some ⟨b, 0, none⟩)] w fun e w' => e = .returned (.tuple #[]) ∧ Wrote w w' B b (l ++ pOpen ++ ps.flatMap outPc ++ pClose) := by
  have hl0 := hlim 0
  have hlA := hlim ps.length
  rw [List.take_length] at hlA
  have hl1 : l.length ≤ 100000000 := by simp at hl0; omega
  have hl2 : (l ++ pOpen ++ ps.flatMap outPc).length ≤ 100000000 := by omega
  have hBw : B ≤ w.heap.size := by have := hS.size; omega
  clear hl0 hlA
  go_enter Tryz.func282, Tryz.ntmps282
  go_wp2_with fail
  refine (write_string B b l ⟨#[60, 112, 62]⟩ w h hBw hl1 (by decide)).mono ?_
  rintro e w1 ⟨rfl, h1⟩
  have hS1 := Wrote.same hS hB h1
  have hP1 := hS1.blk hP
  have c2 : w1.cell? ⟨pk, 2, none⟩ = some (.pointer (some ⟨tb, 0, none⟩)) := hP1.cell 2
  go_wp2_with fail
  refine (text_print w0 B b tb gl n lc x y s (l ++ pOpen) xs ps w1 hS1 hB h1.buf hT hown hx hn hn6 hlim hsz).mono ?_
  rintro e w2 ⟨rfl, h2⟩
  go_wp2_with fail
  refine (write_string B b _ ⟨#[60, 47, 112, 62, 10]⟩ w2 h2.buf (Nat.le_trans hBw (h1.trans h2).below.size) hl2 (by decide)).mono ?_
  rintro e w3 ⟨rfl, h3⟩
  go_wp2_with fail
  go_end0
  exact ⟨rfl, (h1.trans h2).trans h3⟩

set_option maxHeartbeats 4000000 in
theorem doc_print (w0 : World) (B b rk pk tb ig ic gl n lc : Nat) (x y x' y' x2 y2 : Int) (ml : Option Nat) (s : ByteArray) (l : List UInt8) (xs : List Value) (ps : List Pc) (w : World) (hS : Same w0 w) (hB : w0.heap.size = B) (h : Lib.IsBuffer 72 5 B b (Lib.byteCells l) w)
    (hR : Blk w0 rk #[.int .i64 x2, .int .i64 y2, .slice (some ⟨ig, 0, none⟩) 1 ic, .map ml] 339) (hin : w0.ownsRow 0 68 1 (.slice (some ⟨ig, 0, none⟩) 1 ic) 1 [.iface 153 (.pointer (some ⟨pk, 0, none⟩))])
    (hP : Blk w0 pk #[.int .i64 x', .int .i64 y', .pointer (some ⟨tb, 0, none⟩)] 155)
    (hT : Blk w0 tb #[.int .i64 x, .int .i64 y, .slice (some ⟨gl, 0, none⟩) n lc, .string s] 110) (hown : w0.ownsRow 0 132 1 (.slice (some ⟨gl, 0, none⟩) n lc) n xs) (hx : PcsAt w0 xs ps) (hn : 0 < n) (hn6 : n ≤ 1000000)
    (hlim : ∀ i, ((l ++ pOpen) ++ (ps.take i).flatMap outPc).length ≤ 10000000) (hsz : ∀ t, Pc.plain t ∈ ps ∨ Pc.esc t ∈ ps → t.size ≤ 1000000) :
    Calls Tryz.prog 244 #[.pointer (some ⟨rk, 0, none⟩), .pointer (some ⟨b, 0, none⟩)] w fun e w' => e = .returned (.tuple #[]) ∧ Wrote w w' B b (l ++ pOpen ++ ps.flatMap outPc ++ pClose) := by
  have hRw := hS.blk hR
  have c2 : w.cell? ⟨rk, 2, none⟩ = some (.slice (some ⟨ig, 0, none⟩) 1 ic) := hRw.cell 2
  obtain ⟨_, _, he, _, _, hc⟩ := ownsRow_form (ownsRow_keep hin hS (fun _ _ x => x)) (by omega)
  cases he
  have hc0 := hc 0 _ rfl
  have m1 := m_print_para
  go_enter Tryz.func244, Tryz.ntmps244
  go_wp2_with fail
  go_loopg [11] 1 (fun m v wr => (m = 1 ∧ v = .int .i64 0 ∧ wr = w) ∨ (m = 0 ∧ v = .int .i64 1 ∧ Wrote w wr B b (l ++ pOpen ++ ps.flatMap outPc ++ pClose)))
  case atStart => exact Or.inl ⟨rfl, rfl, rfl⟩
  case round =>
    rcases hrel with ⟨rfl, rfl, rfl⟩ | ⟨rfl, rfl, hW⟩
    · go_wp2_with fail
      refine (para_print w0 B b pk tb gl n lc x y x' y' s l xs ps _ hS hB h hP hT hown hx hn hn6 hlim hsz).mono ?_
      rintro e w1 ⟨rfl, h1⟩
      go_wp2_with fail
      go_roundg 0
      case measure => omega
      case rel => exact Or.inr ⟨rfl, rfl, h1⟩
    · go_wp2_with fail
      go_end0
      exact ⟨rfl, hW⟩

theorem m_print_doc (k : Nat) (a : Addr) (w : World) : (method (k + 1) 48 (.pointer (some a)) "PrintHTML").run Tryz.prog w = .ok (244, .pointer (some a)) w := by kernel_rfl
end Go.Proofs.YtdnlfdppjfjncaaGreatDoor
