/- Text, Paragraph, Document to HTML. -/
import Derived.Test.YtdnlfdppjfjncaaGreatDoorPrint3
namespace Go.Proofs.YtdnlfdppjfjncaaGreatDoor
open Go Go.RowKit Go.Proofs

theorem m_print_plain (k : Nat) (a : Addr) (w : World) : (method (k + 1) 156 (.pointer (some a)) "PrintHTML").run Tryz.prog w = .ok (262, .pointer (some a)) w := by kernel_rfl
theorem m_print_esc (k : Nat) (b : Nat) (w : World) : (method (k + 2) 176 (.pointer (some ⟨b, 0, none⟩)) "PrintHTML").run Tryz.prog w = .ok (262, .pointer (some ⟨b, 0, none⟩)) w := by kernel_rfl
theorem m_print_para (k : Nat) (a : Addr) (w : World) : (method (k + 1) 153 (.pointer (some a)) "PrintHTML").run Tryz.prog w = .ok (282, .pointer (some a)) w := by kernel_rfl

def outPc : Pc → List UInt8
  | .plain s => escN s s.size
  | .esc s => escN s s.size

theorem Wrote.same {w0 w w' : World} {B b : Nat} {l : List UInt8} (hS : Same w0 w) (hB : w0.heap.size = B) (h : Wrote w w' B b l) : Same w0 w' :=
  Mods.then hS (Below.mods (S := fun k => B ≤ k) h.below (fun k _ hk => hk)) (fun b hb hk => by omega)

theorem take_out {ps : List Pc} {i : Nat} {pc : Pc} (h : ps[i]? = some pc) : (ps.take (i + 1)).flatMap outPc = (ps.take i).flatMap outPc ++ outPc pc := by
  rw [List.take_add_one, List.flatMap_append, h]
  simp

set_option maxHeartbeats 4000000 in
theorem text_print (w0 : World) (B b tb gl n lc : Nat) (x y : Int) (s : ByteArray) (l : List UInt8) (xs : List Value) (ps : List Pc) (w : World) (hS : Same w0 w) (hB : w0.heap.size = B) (h : Lib.IsBuffer 72 5 B b (Lib.byteCells l) w)
    (hT : Blk w0 tb #[.int .i64 x, .int .i64 y, .slice (some ⟨gl, 0, none⟩) n lc, .string s] 110) (hown : w0.ownsRow 0 132 1 (.slice (some ⟨gl, 0, none⟩) n lc) n xs) (hx : PcsAt w0 xs ps) (hn : 0 < n) (hn6 : n ≤ 1000000)
    (hlim : ∀ i, (l ++ (ps.take i).flatMap outPc).length ≤ 10000000) (hsz : ∀ t, Pc.plain t ∈ ps ∨ Pc.esc t ∈ ps → t.size ≤ 1000000) :
    Calls Tryz.prog 249 #[.pointer (some ⟨tb, 0, none⟩), .pointer (some ⟨b, 0, none⟩)] w fun e w' => e = .returned (.tuple #[]) ∧ Wrote w w' B b (l ++ ps.flatMap outPc) := by
  have hTw := hS.blk hT
  have c2 : w.cell? ⟨tb, 2, none⟩ = some (.slice (some ⟨gl, 0, none⟩) n lc) := hTw.cell 2
  have hps : ps.length = n := by have := hx.length; have := hown.1; omega
  obtain ⟨_, _, he, ⟨cur, hcur⟩, _, hc⟩ := ownsRow_form hown hn
  cases he
  go_enter Tryz.func249, Tryz.ntmps249
  go_wp2_with fail
  go_loopg [11] n (fun m v wr => ∃ i : Nat, v = .int .i64 i ∧ m = n - i ∧ i ≤ n ∧ Wrote w wr B b (l ++ (ps.take i).flatMap outPc))
  case atStart => exact ⟨0, rfl, rfl, Nat.zero_le _, by simpa using h, Below.refl _ _, Lib.OthersKept.refl _ _ _⟩
  case round =>
    obtain ⟨i, rfl, rfl, hi, hW⟩ := hrel
    have hSr := Wrote.same hS hB hW
    have HW := Lib.hid hW
    clear hW c2
    by_cases hlt : i < n
    · have w1 : (i : Int) < n := by omega
      have w2 : (0 : Int) ≤ i := by omega
      have w3 : IntKind.i64.wrap ((i : Int) + 1) = (i : Int) + 1 := IntWalk.i64_in _ (by omega)
      have hxl : xs.length = n := by have := hown.1; omega
      obtain ⟨u, pc, hu, hpc, hat⟩ := hx.get i (by omega)
      have hc1 := hc i _ hu
      have hc2 : wr.cell? ⟨gl, i, none⟩ = some u := (World.cell?_of_block (hSr.block gl (World.block_lt_of_cell? _ _ hc1) (fun x => x))).trans hc1
      have m1 := m_print_plain
      have m2 := m_print_esc
      cases pc with
      | plain t =>
        obtain ⟨xb, rfl, hb⟩ := hat
        have hbw := hSr.blk hb
        go_wp2_with fail
        refine (plain_print B b xb _ t wr HW.out.buf (by have := HW.out.below.size; have := hS.size; omega) (hlim i) (hsz t (Or.inl (List.mem_of_getElem? hpc))) (hbw.cell 0) (by have := hb.lt; omega)).mono ?_
        rintro e w5 ⟨rfl, hW5⟩
        go_wp2_with fail
        go_roundg (n - (i + 1))
        case measure => omega
        case rel => exact ⟨i + 1, by simp, rfl, by omega, by rw [take_out hpc, ← List.append_assoc]; exact HW.out.trans hW5⟩
      | esc t =>
        obtain ⟨xb, rfl, hb⟩ := hat
        have hbw := hSr.blk hb
        go_wp2_with fail
        refine (plain_print B b xb _ t wr HW.out.buf (by have := HW.out.below.size; have := hS.size; omega) (hlim i) (hsz t (Or.inr (List.mem_of_getElem? hpc))) (hbw.cell 0) (by have := hb.lt; omega)).mono ?_
        rintro e w5 ⟨rfl, hW5⟩
        go_wp2_with fail
        go_roundg (n - (i + 1))
        case measure => omega
        case rel => exact ⟨i + 1, by simp, rfl, by omega, by rw [take_out hpc, ← List.append_assoc]; exact HW.out.trans hW5⟩
    · have hin : i = n := by omega
      subst hin
      have w1 : ¬ ((i : Int) < i) := by omega
      go_wp2_with fail
      go_end0
      refine ⟨rfl, ?_⟩
      have := HW.out
      rw [← hps, List.take_length] at this
      exact this
end Go.Proofs.YtdnlfdppjfjncaaGreatDoor
