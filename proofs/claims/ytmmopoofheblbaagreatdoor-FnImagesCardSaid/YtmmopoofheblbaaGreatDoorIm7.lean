/- Some texts of one proof, put into one file: PrintA, Print4, Print5, Print6, Law1, Law2. -/
import Derived.Deep.RegionHeld3
import Derived.Great.Walk
import Derived.Test.YtmmopoofheblbaaGreatDoorIm6
/- AutoLink to HTML. -/
namespace Go.Proofs.YtmmopoofheblbaaGreatDoor
open Go Go.RowKit Go.Proofs Go.Great

set_option maxRecDepth 100000 in
set_option maxHeartbeats 4000000 in
theorem linkEscaper_at (w : World) : Calls Tryz.prog 308 #[] w fun e w' => e = .returned (.slice (some ⟨w.heap.size, 0, none⟩) (2 * linkTab.length) (2 * linkTab.length)) ∧ w' = w.alloc (.cells (tabCells linkTab) 9) := by
  go_enter Tryz.func308, Tryz.ntmps308
  go_upto_region 1 with (fail)
  apply wp_region_lit
  refine wpList_buildSliceTo rfl 416 9 340 _ rfl w.heap.size rfl (some 1) rfl Tryz.underlying416 (tabCells linkTab) ?_ ?_
  · as_aux_lemma => kernel_rfl
  refine wpList_readTo rfl (some 0) rfl (.slice (some ⟨w.heap.size, 0, none⟩) 340 340) rfl ?_
  apply wpList_nil
  rename_i K hK
  refine hK _ _ ?_
  clear hK
  go_wp2
  go_ret
  exact ⟨rfl, rfl⟩

/-- The HTML of an automatic link with the text t to u. -/
def autoOut (t u : ByteArray) : List UInt8 := [60, 97, 32, 104, 114, 101, 102, 61, 34] ++ lkN linkTab u u.size ++ [34, 62] ++ escN t t.size ++ [60, 47, 97, 62]

theorem autoOut_len (t u : ByteArray) : (autoOut t u).length ≤ 6 * u.size + 6 * t.size + 15 := by
  have h1 := lkN_len linkTab_ok u u.size (Nat.le_refl _)
  have h2 := escN_len t t.size (Nat.le_refl _)
  simp only [autoOut, List.length_append, List.length_cons, List.length_nil]
  omega

theorem auto_text (t u R1 R2 : ByteArray) (h1 : R1 = ⟨(lkN linkTab u u.size).toArray⟩) (h2 : R2 = ⟨(lkN escTab t t.size).toArray⟩) :
    ((((⟨#[60, 97, 32, 104, 114, 101, 102, 61, 34]⟩ : ByteArray) ++ R1) ++ (⟨#[34, 62]⟩ : ByteArray)) ++ R2 ++ (⟨#[60, 47, 97, 62]⟩ : ByteArray)).data.toList = autoOut t u := by
  subst h1 h2
  simp [autoOut, escTab_lkN]

def AutoTab (w : World) (xb : Nat) (t u : ByteArray) (T : Tab) (n : Nat) (e : Ending) (V' : World) : Prop :=
  ∃ K, e = .returned (.slice (some ⟨K, 0, none⟩) n n) ∧ Same w V' ∧ Blk V' K (tabCells T) 9 ∧ V'.cell? ⟨xb, 0, none⟩ = some (.string t) ∧ V'.cell? ⟨xb, 1, none⟩ = some (.string u)
def AutoRep (w : World) (xb : Nat) (t u R : ByteArray) (e : Ending) (V' : World) : Prop :=
  e = .returned (.string R) ∧ Same w V' ∧ V'.cell? ⟨xb, 0, none⟩ = some (.string t) ∧ V'.cell? ⟨xb, 1, none⟩ = some (.string u)

structure RepOk (T : Tab) (n : Nat) (s R : ByteArray) : Prop where
  ok : TabOk T
  len : n = 2 * T.length
  small : s.size ≤ 100000
  out : R = ⟨(lkN T s s.size).toArray⟩

set_option maxRecDepth 100000 in
set_option maxHeartbeats 8000000 in
theorem auto_print (B b xb : Nat) (l : List UInt8) (t u : ByteArray) (w : World) (h : Lib.IsBuffer 95 5 B b (Lib.byteCells l) w) (hB : B ≤ w.heap.size) (hl : l.length ≤ 10000000) (ht : t.size ≤ 100000) (hu : u.size ≤ 100000) (hX : Blk w xb #[.string t, .string u] 209) (hXl : xb < B) :
    Calls Tryz.prog 370 #[.pointer (some ⟨xb, 0, none⟩), .pointer (some ⟨b, 0, none⟩)] w fun e w' => e = .returned (.tuple #[]) ∧ Wrote w w' B b (l ++ autoOut t u) := by
  obtain ⟨N, HN⟩ : ∃ N, Hid (N = 2 * linkTab.length) := ⟨_, Lib.hid rfl⟩
  obtain ⟨R1, HR1⟩ : ∃ R, Hid (R = (⟨(lkN linkTab u u.size).toArray⟩ : ByteArray)) := ⟨_, Lib.hid rfl⟩
  obtain ⟨R2, HR2⟩ : ∃ R, Hid (R = (⟨(lkN escTab t t.size).toArray⟩ : ByteArray)) := ⟨_, Lib.hid rfl⟩
  have s1 : R1.size ≤ 600000 := by
    have := lkN_len linkTab_ok u u.size (Nat.le_refl _)
    rw [HR1.out]
    show (lkN linkTab u u.size).length ≤ 600000
    omega
  have s2 : R2.size ≤ 600000 := by
    have := lkN_len escTab_ok t t.size (Nat.le_refl _)
    rw [HR2.out]
    show (lkN escTab t t.size).length ≤ 600000
    omega
  have HT := Lib.hid (auto_text t u R1 R2 HR1.out HR2.out)
  have cc : ∀ V, Same w V → V.cell? ⟨xb, 0, none⟩ = some (.string t) ∧ V.cell? ⟨xb, 1, none⟩ = some (.string u) := fun V hV => ⟨(hV.blk hX).cell 0, (hV.blk hX).cell 1⟩
  have HC := Lib.hid cc
  have C1 : ∀ V, Same w V → Calls Tryz.prog 308 #[] V (AutoTab w xb t u linkTab N) := fun V hV =>
    (linkEscaper_at V).mono fun e V' ⟨h1, h2⟩ => by
      subst h2
      have hS : Same w (V.alloc (.cells (tabCells linkTab) 9)) := hV.alloc _
      exact ⟨V.heap.size, by rw [h1, HN.out], hS, Blk.newAt _ _ rfl, HC.out _ hS⟩
  have C3 : ∀ V, Same w V → Calls Tryz.prog 333 #[] V (AutoTab w xb t u escTab 8) := fun V hV =>
    (htmlEscaper_at V _ rfl).mono fun e V' ⟨h1, h2⟩ => by
      subst h2
      have hS : Same w (V.alloc (.cells escCells 9)) := hV.alloc _
      exact ⟨V.heap.size, h1, hS, Blk.newAt _ _ rfl, HC.out _ hS⟩
  have r1 : RepOk linkTab N u R1 := ⟨linkTab_ok, HN.out, by omega, HR1.out⟩
  have r2 : RepOk escTab 8 t R2 := ⟨escTab_ok, rfl, by omega, HR2.out⟩
  have CR : ∀ V K n s T R, Same w V → Blk V K (tabCells T) 9 → RepOk T n s R → Calls Tryz.prog 309 #[.slice (some ⟨K, 0, none⟩) n n, .string s] V (AutoRep w xb t u R) := fun V K n s T R hV hK hR =>
    (pairs_replace T hR.ok K n hR.len s V (by have := hR.small; omega) hK).mono fun e V' ⟨h1, h2⟩ => ⟨by rw [h1, hR.out], hV.trans h2, HC.out _ (hV.trans h2)⟩
  have C5 : ∀ V, Same w V → Calls Tryz.prog 307 #[.pointer (some ⟨b, 0, none⟩), .string ((((⟨#[60, 97, 32, 104, 114, 101, 102, 61, 34]⟩ : ByteArray) ++ R1) ++ (⟨#[34, 62]⟩ : ByteArray)) ++ R2 ++ (⟨#[60, 47, 97, 62]⟩ : ByteArray))] V
      fun e V' => (∃ n : Int, e = .returned (.tuple #[.int .i64 n, .nilIface])) ∧ Wrote w V' B b (l ++ autoOut t u) ∧ V'.cell? ⟨xb, 0, none⟩ = some (.string t) ∧ V'.cell? ⟨xb, 1, none⟩ = some (.string u) := fun V hV => by
    have hW : Wrote w V B b l := Wrote.keep ⟨h, Below.refl _ _, Lib.OthersKept.refl _ _ _⟩ hB hV
    have hz := hV.size
    refine (write_string B b l _ V hW.buf (by omega) (by omega) ?_).mono ?_
    · simp only [ByteArray.size_append]
      show 9 + R1.size + 2 + R2.size + 4 ≤ 100000000
      omega
    · rintro e V' ⟨rfl, h2⟩
      rw [HT.out] at h2
      have h3 := hW.trans h2
      have hb := h3.below.block xb hXl
      exact ⟨⟨_, rfl⟩, h3, (World.cell?_of_block hb).trans (hX.cell 0), (World.cell?_of_block hb).trans (hX.cell 1)⟩
  have f7 : ¬ (9223372036854775807 < 9 + R1.size) := by omega
  have f8 : ¬ (9223372036854775807 < 9 + R1.size + 2) := by omega
  have f9 : ¬ (9223372036854775807 < 9 + R1.size + 2 + R2.size) := by omega
  have f10 : ¬ (9223372036854775807 < 9 + R1.size + 2 + R2.size + 4) := by omega
  obtain ⟨c0, c1⟩ := cc w (Mods.refl _ _)
  obtain ⟨d0, d1⟩ := cc w.drew ((Mods.refl _ _).drew)
  clear cc
  go_enter Tryz.func370, Tryz.ntmps370
  go_wp2_with fail
  go_region_held3 (fun w' => w'.cell? ⟨xb, 0, none⟩ = some (.string t) ∧ w'.cell? ⟨xb, 1, none⟩ = some (.string u)) (first | exact ⟨by assumption, by assumption⟩)
    (first
      | (go_at_call 308; refine (C1 _ (by repeat (first | assumption | exact Mods.refl _ _ | apply Mods.drew))).mono ?_; rintro e w1 ⟨K1, rfl, hS1, hK1, x0, x1⟩)
      | (go_at_call 333; refine (C3 _ (by assumption)).mono ?_; rintro e w3 ⟨K3, rfl, hS3, hK3, x0, x1⟩)
      | (go_at_call 309; refine (CR _ _ _ _ _ _ (by assumption) (by assumption) (by assumption)).mono ?_; rintro e w2 ⟨rfl, hS2, x0, x1⟩)
      | (go_at_call 307; refine (C5 _ (by assumption)).mono ?_; rintro e w5 ⟨⟨n5, rfl⟩, hW5, x0, x1⟩))
  all_goals
    go_wp2_with fail
    go_end0
    exact ⟨rfl, hW5⟩
end Go.Proofs.YtmmopoofheblbaaGreatDoor

/- Text, Paragraph, Document to HTML. -/
namespace Go.Proofs.YtmmopoofheblbaaGreatDoor
open Go Go.RowKit Go.Proofs

theorem m_print_plain (k : Nat) (a : Addr) (w : World) : (method (k + 1) 224 (.pointer (some a)) "PrintHTML").run Tryz.prog w = .ok (390, .pointer (some a)) w := by kernel_rfl
theorem m_print_esc (k : Nat) (b : Nat) (w : World) : (method (k + 2) 220 (.pointer (some ⟨b, 0, none⟩)) "PrintHTML").run Tryz.prog w = .ok (390, .pointer (some ⟨b, 0, none⟩)) w := by kernel_rfl
theorem m_print_para (k : Nat) (a : Addr) (w : World) : (method (k + 1) 136 (.pointer (some a)) "PrintHTML").run Tryz.prog w = .ok (328, .pointer (some a)) w := by kernel_rfl

theorem m_print_soft (k : Nat) (a : Addr) (w : World) : (method (k + 1) 193 (.pointer (some a)) "PrintHTML").run Tryz.prog w = .ok (346, .pointer (some a)) w := by kernel_rfl
theorem m_print_auto (k : Nat) (a : Addr) (w : World) : (method (k + 1) 207 (.pointer (some a)) "PrintHTML").run Tryz.prog w = .ok (370, .pointer (some a)) w := by kernel_rfl
theorem m_print_tag (k : Nat) (a : Addr) (w : World) : (method (k + 1) 212 (.pointer (some a)) "PrintHTML").run Tryz.prog w = .ok (378, .pointer (some a)) w := by kernel_rfl

/-- The HTML of a piece. -/
def outPc : Pc → List UInt8
  | .plain s => escN s s.size
  | .esc s => escN s s.size
  | .soft => [10]
  | .auto t u => autoOut t u
  | .tag s => s.data.toList

theorem soft_print (B b : Nat) (v : Value) (l : List UInt8) (w : World) (h : Lib.IsBuffer 95 5 B b (Lib.byteCells l) w) (hB : B ≤ w.heap.size) (hl : l.length ≤ 10000000) :
    Calls Tryz.prog 346 #[v, .pointer (some ⟨b, 0, none⟩)] w fun e w' => e = .returned (.tuple #[]) ∧ Wrote w w' B b (l ++ [10]) := by
  go_enter Tryz.func346, Tryz.ntmps346
  go_wp2_with fail
  refine (write_string B b l ⟨#[10]⟩ w h hB (by omega) (by decide)).mono ?_
  rintro e w' ⟨rfl, hW⟩
  go_wp2_with fail
  go_end0
  exact ⟨rfl, hW⟩

theorem tag_print (B b xb : Nat) (l : List UInt8) (t : ByteArray) (w : World) (h : Lib.IsBuffer 95 5 B b (Lib.byteCells l) w) (hB : B ≤ w.heap.size) (hl : l.length ≤ 10000000) (ht : t.size ≤ 1000000)
    (hX : w.cell? ⟨xb, 0, none⟩ = some (.string t)) :
    Calls Tryz.prog 378 #[.pointer (some ⟨xb, 0, none⟩), .pointer (some ⟨b, 0, none⟩)] w fun e w' => e = .returned (.tuple #[]) ∧ Wrote w w' B b (l ++ t.data.toList) := by
  go_enter Tryz.func378, Tryz.ntmps378
  go_wp2_with fail
  refine (write_string B b l t w h hB (by omega) (by omega)).mono ?_
  rintro e w' ⟨rfl, hW⟩
  go_wp2_with fail
  go_end0
  exact ⟨rfl, hW⟩

theorem Wrote.same {w0 w w' : World} {B b : Nat} {l : List UInt8} (hS : Same w0 w) (hB : w0.heap.size = B) (h : Wrote w w' B b l) : Same w0 w' :=
  Mods.then hS (Below.mods (S := fun k => B ≤ k) h.below (fun k _ hk => hk)) (fun b hb hk => by omega)

theorem take_out {ps : List Pc} {i : Nat} {pc : Pc} (h : ps[i]? = some pc) : (ps.take (i + 1)).flatMap outPc = (ps.take i).flatMap outPc ++ outPc pc := by
  rw [List.take_add_one, List.flatMap_append, h]
  simp

set_option maxHeartbeats 4000000 in
theorem text_print (w0 : World) (B b tb gl n lc : Nat) (x y : Int) (s : ByteArray) (l : List UInt8) (xs : List Value) (ps : List Pc) (w : World) (hS : Same w0 w) (hB : w0.heap.size = B) (h : Lib.IsBuffer 95 5 B b (Lib.byteCells l) w)
    (hT : Blk w0 tb #[.int .i64 x, .int .i64 y, .slice (some ⟨gl, 0, none⟩) n lc, .string s] 135) (hown : w0.ownsRow 0 157 1 (.slice (some ⟨gl, 0, none⟩) n lc) n xs) (hx : PcsAt w0 xs ps) (hn : 0 < n) (hn6 : n ≤ 1000000)
    (hlim : ∀ i, (l ++ (ps.take i).flatMap outPc).length ≤ 10000000) (hsz : ∀ t, Pc.plain t ∈ ps ∨ Pc.esc t ∈ ps ∨ Pc.tag t ∈ ps → t.size ≤ 1000000) (hau : ∀ t u, Pc.auto t u ∈ ps → t.size ≤ 100000 ∧ u.size ≤ 100000) :
    Calls Tryz.prog 326 #[.pointer (some ⟨tb, 0, none⟩), .pointer (some ⟨b, 0, none⟩)] w fun e w' => e = .returned (.tuple #[]) ∧ Wrote w w' B b (l ++ ps.flatMap outPc) := by
  have hTw := hS.blk hT
  have c2 : w.cell? ⟨tb, 2, none⟩ = some (.slice (some ⟨gl, 0, none⟩) n lc) := hTw.cell 2
  have hps : ps.length = n := by have := hx.length; have := hown.1; omega
  obtain ⟨_, _, he, ⟨cur, hcur⟩, _, hc⟩ := ownsRow_form hown hn
  cases he
  go_enter Tryz.func326, Tryz.ntmps326
  go_wp2_with fail
  go_loopg [11] n (fun m v wr => ∃ i : Nat, v = .int .i64 i ∧ m = n - i ∧ i ≤ n ∧ Wrote w wr B b (l ++ (ps.take i).flatMap outPc))
  case atStart => exact ⟨0, rfl, rfl, Nat.zero_le _, by simpa using h, Below.refl _ _, Lib.OthersKept.refl _ _ _⟩
  case round =>
    obtain ⟨i, rfl, rfl, hi, hW⟩ := hrel
    have hSr := Wrote.same hS hB hW
    have HW := Lib.hid hW
    clear hW c2
    by_cases hlt : i < n
    · have w1 : (i : Int) < n := by omega
      have w2 : (0 : Int) ≤ i := by omega
      have w3 : IntKind.i64.wrap ((i : Int) + 1) = (i : Int) + 1 := IntWalk.i64_in _ (by omega)
      have hxl : xs.length = n := by have := hown.1; omega
      obtain ⟨u, pc, hu, hpc, hat⟩ := hx.get i (by omega)
      have hc1 := hc i _ hu
      have hc2 : wr.cell? ⟨gl, i, none⟩ = some u := (World.cell?_of_block (hSr.block gl (World.block_lt_of_cell? _ _ hc1) (fun x => x))).trans hc1
      have m1 := m_print_plain
      have m2 := m_print_esc
      have m3 := m_print_soft
      have m4 := m_print_tag
      have m5 := m_print_auto
      cases pc with
      | plain t =>
        obtain ⟨xb, rfl, hb⟩ := hat
        have hb : Blk w0 xb #[.string t] 221 := hb
        have hbw := hSr.blk hb
        have hc3 : wr.cell? ⟨gl, i, none⟩ = some (.iface 224 (.pointer (some ⟨xb, 0, none⟩))) := hc2
        clear hc2 hc1 hu
        go_wp2_with fail
        refine (plain_print B b xb _ t wr HW.out.buf (by have := HW.out.below.size; have := hS.size; omega) (hlim i) (hsz t (Or.inl (List.mem_of_getElem? hpc))) (hbw.cell 0) (by have := hb.lt; omega)).mono ?_
        rintro e w5 ⟨rfl, hW5⟩
        go_wp2_with fail
        go_roundg (n - (i + 1))
        case measure => omega
        case rel => exact ⟨i + 1, by simp, rfl, by omega, by rw [take_out hpc, ← List.append_assoc]; exact HW.out.trans hW5⟩
      | esc t =>
        obtain ⟨xb, rfl, hb⟩ := hat
        have hb : Blk w0 xb #[.string t] 223 := hb
        have hbw := hSr.blk hb
        have hc3 : wr.cell? ⟨gl, i, none⟩ = some (.iface 220 (.pointer (some ⟨xb, 0, none⟩))) := hc2
        clear hc2 hc1 hu
        go_wp2_with fail
        refine (plain_print B b xb _ t wr HW.out.buf (by have := HW.out.below.size; have := hS.size; omega) (hlim i) (hsz t (Or.inr (Or.inl (List.mem_of_getElem? hpc)))) (hbw.cell 0) (by have := hb.lt; omega)).mono ?_
        rintro e w5 ⟨rfl, hW5⟩
        go_wp2_with fail
        go_roundg (n - (i + 1))
        case measure => omega
        case rel => exact ⟨i + 1, by simp, rfl, by omega, by rw [take_out hpc, ← List.append_assoc]; exact HW.out.trans hW5⟩
      | soft =>
        obtain ⟨xb, rfl, hb⟩ := hat
        have hb : Blk w0 xb #[] 194 := hb
        have hbw := hSr.blk hb
        have hc3 : wr.cell? ⟨gl, i, none⟩ = some (.iface 193 (.pointer (some ⟨xb, 0, none⟩))) := hc2
        clear hc2 hc1 hu
        go_wp2_with fail
        refine (soft_print B b _ _ wr HW.out.buf (by have := HW.out.below.size; have := hS.size; omega) (hlim i)).mono ?_
        rintro e w5 ⟨rfl, hW5⟩
        go_wp2_with fail
        go_roundg (n - (i + 1))
        case measure => omega
        case rel => exact ⟨i + 1, by simp, rfl, by omega, by rw [take_out hpc, ← List.append_assoc]; exact HW.out.trans hW5⟩
      | tag t =>
        obtain ⟨xb, rfl, hb⟩ := hat
        have hb : Blk w0 xb #[.string t] 213 := hb
        have hbw := hSr.blk hb
        have hc3 : wr.cell? ⟨gl, i, none⟩ = some (.iface 212 (.pointer (some ⟨xb, 0, none⟩))) := hc2
        clear hc2 hc1 hu
        go_wp2_with fail
        refine (tag_print B b xb _ t wr HW.out.buf (by have := HW.out.below.size; have := hS.size; omega) (hlim i) (hsz t (Or.inr (Or.inr (List.mem_of_getElem? hpc)))) (hbw.cell 0)).mono ?_
        rintro e w5 ⟨rfl, hW5⟩
        go_wp2_with fail
        go_roundg (n - (i + 1))
        case measure => omega
        case rel => exact ⟨i + 1, by simp, rfl, by omega, by rw [take_out hpc, ← List.append_assoc]; exact HW.out.trans hW5⟩
      | auto t u =>
        obtain ⟨xb, rfl, hb⟩ := hat
        have hb : Blk w0 xb #[.string t, .string u] 209 := hb
        have hbw := hSr.blk hb
        have hc3 : wr.cell? ⟨gl, i, none⟩ = some (.iface 207 (.pointer (some ⟨xb, 0, none⟩))) := hc2
        clear hc2 hc1 hu
        obtain ⟨a1, a2⟩ := hau t u (List.mem_of_getElem? hpc)
        go_wp2_with fail
        refine (auto_print B b xb _ t u wr HW.out.buf (by have := HW.out.below.size; have := hS.size; omega) (hlim i) a1 a2 hbw (by have := hb.lt; omega)).mono ?_
        rintro e w5 ⟨rfl, hW5⟩
        go_wp2_with fail
        go_roundg (n - (i + 1))
        case measure => omega
        case rel => exact ⟨i + 1, by simp, rfl, by omega, by rw [take_out hpc, ← List.append_assoc]; exact HW.out.trans hW5⟩
    · have hin : i = n := by omega
      subst hin
      have w1 : ¬ ((i : Int) < i) := by omega
      go_wp2_with fail
      go_end0
      refine ⟨rfl, ?_⟩
      have := HW.out
      rw [← hps, List.take_length] at this
      exact this
end Go.Proofs.YtmmopoofheblbaaGreatDoor

/- Paragraph and Document to HTML. -/
namespace Go.Proofs.YtmmopoofheblbaaGreatDoor
open Go Go.RowKit Go.Proofs

def pOpen : List UInt8 := [60, 112, 62]
def pClose : List UInt8 := [60, 47, 112, 62, 10]

set_option maxHeartbeats 4000000 in
theorem para_print (w0 : World) (B b pk tb gl n lc : Nat) (x y x' y' : Int) (s : ByteArray) (l : List UInt8) (xs : List Value) (ps : List Pc) (w : World) (hS : Same w0 w) (hB : w0.heap.size = B) (h : Lib.IsBuffer 95 5 B b (Lib.byteCells l) w)
    (hP : Blk w0 pk #[.int .i64 x', .int .i64 y', .pointer (some ⟨tb, 0, none⟩)] 138)
    (hT : Blk w0 tb #[.int .i64 x, .int .i64 y, .slice (some ⟨gl, 0, none⟩) n lc, .string s] 135) (hown : w0.ownsRow 0 157 1 (.slice (some ⟨gl, 0, none⟩) n lc) n xs) (hx : PcsAt w0 xs ps) (hn : 0 < n) (hn6 : n ≤ 1000000)
    (hlim : ∀ i, ((l ++ pOpen) ++ (ps.take i).flatMap outPc).length ≤ 10000000) (hsz : ∀ t, Pc.plain t ∈ ps ∨ Pc.esc t ∈ ps ∨ Pc.tag t ∈ ps → t.size ≤ 1000000) (hau : ∀ t u, Pc.auto t u ∈ ps → t.size ≤ 100000 ∧ u.size ≤ 100000) :
    Calls Tryz.prog 328 #[.pointer (some ⟨pk, 0, none⟩), .pointer (some ⟨b, 0, none⟩)] w fun e w' => e = .returned (.tuple #[]) ∧ Wrote w w' B b (l ++ pOpen ++ ps.flatMap outPc ++ pClose) := by
  have hl0 := hlim 0
  have hlA := hlim ps.length
  rw [List.take_length] at hlA
  have hl1 : l.length ≤ 100000000 := by simp at hl0; omega
  have hl2 : (l ++ pOpen ++ ps.flatMap outPc).length ≤ 100000000 := by omega
  have hBw : B ≤ w.heap.size := by have := hS.size; omega
  clear hl0 hlA
  go_enter Tryz.func328, Tryz.ntmps328
  go_wp2_with fail
  refine (write_string B b l ⟨#[60, 112, 62]⟩ w h hBw hl1 (by decide)).mono ?_
  rintro e w1 ⟨rfl, h1⟩
  have hS1 := Wrote.same hS hB h1
  have hP1 := hS1.blk hP
  have c2 : w1.cell? ⟨pk, 2, none⟩ = some (.pointer (some ⟨tb, 0, none⟩)) := hP1.cell 2
  go_wp2_with fail
  refine (text_print w0 B b tb gl n lc x y s (l ++ pOpen) xs ps w1 hS1 hB h1.buf hT hown hx hn hn6 hlim hsz hau).mono ?_
  rintro e w2 ⟨rfl, h2⟩
  go_wp2_with fail
  refine (write_string B b _ ⟨#[60, 47, 112, 62, 10]⟩ w2 h2.buf (Nat.le_trans hBw (h1.trans h2).below.size) hl2 (by decide)).mono ?_
  rintro e w3 ⟨rfl, h3⟩
  go_wp2_with fail
  go_end0
  exact ⟨rfl, (h1.trans h2).trans h3⟩

set_option maxHeartbeats 4000000 in
theorem doc_print (w0 : World) (B b rk pk tb ig ic gl n lc : Nat) (x y x' y' x2 y2 : Int) (ml : Option Nat) (s : ByteArray) (l : List UInt8) (xs : List Value) (ps : List Pc) (w : World) (hS : Same w0 w) (hB : w0.heap.size = B) (h : Lib.IsBuffer 95 5 B b (Lib.byteCells l) w)
    (hR : Blk w0 rk #[.int .i64 x2, .int .i64 y2, .slice (some ⟨ig, 0, none⟩) 1 ic, .map ml] 111) (hin : w0.ownsRow 0 91 1 (.slice (some ⟨ig, 0, none⟩) 1 ic) 1 [.iface 136 (.pointer (some ⟨pk, 0, none⟩))])
    (hP : Blk w0 pk #[.int .i64 x', .int .i64 y', .pointer (some ⟨tb, 0, none⟩)] 138)
    (hT : Blk w0 tb #[.int .i64 x, .int .i64 y, .slice (some ⟨gl, 0, none⟩) n lc, .string s] 135) (hown : w0.ownsRow 0 157 1 (.slice (some ⟨gl, 0, none⟩) n lc) n xs) (hx : PcsAt w0 xs ps) (hn : 0 < n) (hn6 : n ≤ 1000000)
    (hlim : ∀ i, ((l ++ pOpen) ++ (ps.take i).flatMap outPc).length ≤ 10000000) (hsz : ∀ t, Pc.plain t ∈ ps ∨ Pc.esc t ∈ ps ∨ Pc.tag t ∈ ps → t.size ≤ 1000000) (hau : ∀ t u, Pc.auto t u ∈ ps → t.size ≤ 100000 ∧ u.size ≤ 100000) :
    Calls Tryz.prog 303 #[.pointer (some ⟨rk, 0, none⟩), .pointer (some ⟨b, 0, none⟩)] w fun e w' => e = .returned (.tuple #[]) ∧ Wrote w w' B b (l ++ pOpen ++ ps.flatMap outPc ++ pClose) := by
  have hRw := hS.blk hR
  have c2 : w.cell? ⟨rk, 2, none⟩ = some (.slice (some ⟨ig, 0, none⟩) 1 ic) := hRw.cell 2
  obtain ⟨_, _, he, _, _, hc⟩ := ownsRow_form (ownsRow_keep hin hS (fun _ _ x => x)) (by omega)
  cases he
  have hc0 := hc 0 _ rfl
  have m1 := m_print_para
  go_enter Tryz.func303, Tryz.ntmps303
  go_wp2_with fail
  go_loopg [11] 1 (fun m v wr => (m = 1 ∧ v = .int .i64 0 ∧ wr = w) ∨ (m = 0 ∧ v = .int .i64 1 ∧ Wrote w wr B b (l ++ pOpen ++ ps.flatMap outPc ++ pClose)))
  case atStart => exact Or.inl ⟨rfl, rfl, rfl⟩
  case round =>
    rcases hrel with ⟨rfl, rfl, rfl⟩ | ⟨rfl, rfl, hW⟩
    · go_wp2_with fail
      refine (para_print w0 B b pk tb gl n lc x y x' y' s l xs ps _ hS hB h hP hT hown hx hn hn6 hlim hsz hau).mono ?_
      rintro e w1 ⟨rfl, h1⟩
      go_wp2_with fail
      go_roundg 0
      case measure => omega
      case rel => exact Or.inr ⟨rfl, rfl, h1⟩
    · go_wp2_with fail
      go_end0
      exact ⟨rfl, hW⟩

theorem m_print_doc (k : Nat) (a : Addr) (w : World) : (method (k + 1) 68 (.pointer (some a)) "PrintHTML").run Tryz.prog w = .ok (303, .pointer (some a)) w := by kernel_rfl
end Go.Proofs.YtmmopoofheblbaaGreatDoor

/- ToHTML of a document of one paragraph. -/
namespace Go.Proofs.YtmmopoofheblbaaGreatDoor
open Go Go.RowKit Go.Proofs

set_option maxHeartbeats 4000000 in
theorem toHTML_doc (w0 : World) (rk pk tb ig ic gl n lc : Nat) (x y x' y' x2 y2 : Int) (ml : Option Nat) (s : ByteArray) (xs : List Value) (ps : List Pc)
    (hR : Blk w0 rk #[.int .i64 x2, .int .i64 y2, .slice (some ⟨ig, 0, none⟩) 1 ic, .map ml] 111) (hin : w0.ownsRow 0 91 1 (.slice (some ⟨ig, 0, none⟩) 1 ic) 1 [.iface 136 (.pointer (some ⟨pk, 0, none⟩))])
    (hP : Blk w0 pk #[.int .i64 x', .int .i64 y', .pointer (some ⟨tb, 0, none⟩)] 138)
    (hT : Blk w0 tb #[.int .i64 x, .int .i64 y, .slice (some ⟨gl, 0, none⟩) n lc, .string s] 135) (hown : w0.ownsRow 0 157 1 (.slice (some ⟨gl, 0, none⟩) n lc) n xs) (hx : PcsAt w0 xs ps) (hn : 0 < n) (hn6 : n ≤ 1000000)
    (hlim : ∀ i, ((([] : List UInt8) ++ pOpen) ++ (ps.take i).flatMap outPc).length ≤ 10000000) (hsz : ∀ t, Pc.plain t ∈ ps ∨ Pc.esc t ∈ ps ∨ Pc.tag t ∈ ps → t.size ≤ 1000000) (hau : ∀ t u, Pc.auto t u ∈ ps → t.size ≤ 100000 ∧ u.size ≤ 100000) :
    Calls Tryz.prog 45 #[.iface 68 (.pointer (some ⟨rk, 0, none⟩))] w0 fun e w' => e = .returned (.string ⟨(pOpen ++ ps.flatMap outPc ++ pClose).toArray⟩) ∧ Same w0 w' := by
  have m1 := m_print_doc
  go_enter Tryz.func45, Tryz.ntmps45
  go_wp2_with fail
  have hS : Same w0 (w0.alloc (.cells #[.slice none 0 0, .int .i64 0, .int .i8 0] 95)) := (Mods.refl _ w0).alloc _
  have hF := Lib.fresh_isBuffer 95 5 w0
  generalize hW : (w0.alloc _ : World) = W at *
  refine (doc_print w0 w0.heap.size w0.heap.size rk pk tb ig ic gl n lc x y x' y' x2 y2 ml s [] xs ps W hS rfl hF hR hin hP hT hown hx hn hn6 hlim hsz hau).mono ?_
  rintro e w1 ⟨rfl, h1⟩
  have hS1 := Wrote.same hS rfl h1
  go_wp2_with fail
  refine (Tryz.Buffer_String w0.heap.size w0.heap.size _ w1 h1.buf).mono ?_
  rintro e w2 ⟨rfl, k, rfl⟩
  go_wp2_with fail
  go_ret
  exact ⟨rfl, hS1.drewN k⟩

def allOff : Value := .agg #[.bool false, .bool false, .bool false, .bool false, .bool false, .bool false, .bool false, .bool false, .bool false, .bool false]

set_option maxHeartbeats 4000000 in
theorem impl_HTML_of (s : ByteArray) (w : World) (hs9 : s.size ≤ 900000) (all : List Pc)
    (hparse : ∀ (pp : Nat) (w1 : World), Off w1 pp → Calls Tryz.prog 47 #[.pointer (some ⟨pp, 0, none⟩), .string s] w1 fun e w' => ∃ bp rk, e = .returned (.pointer (some ⟨rk, 0, none⟩)) ∧ DocAt w1 w' bp rk pp s all)
    (hlim : ∀ i, ((([] : List UInt8) ++ pOpen) ++ ((all).take i).flatMap outPc).length ≤ 10000000) (hsz : ∀ t, Pc.plain t ∈ all ∨ Pc.esc t ∈ all ∨ Pc.tag t ∈ all → t.size ≤ 1000000) (hau : ∀ t u, Pc.auto t u ∈ all → t.size ≤ 100000 ∧ u.size ≤ 100000) :
    Calls Tryz.prog 16 #[.agg #[.bool false, .bool false, .bool false, .bool false, .bool false, .bool false, .bool false, .bool false, .bool false, .bool false], .string s] w fun e w' => e = .returned (.string ⟨(pOpen ++ (all).flatMap outPc ++ pClose).toArray⟩) ∧ Same w w' := by
  go_enter Tryz.func16, Tryz.ntmps16
  go_wp2_with fail
  generalize hW : (w.alloc _ : World) = W
  have hm : Same w W := by subst hW; exact (Mods.refl _ w).alloc _
  clear hW
  refine (impl_parser W).mono ?_
  rintro e w1 ⟨pp, rfl, hm1, _, hO⟩
  go_wp2_with fail
  refine (hparse pp w1 hO).mono ?_
  rintro e w2 ⟨bp, rk, rfl, hD⟩
  obtain ⟨hm2, _, pk, tb, ig, ic, gl, n, lc, xs, x, y, x2, y2, a1, a2, a3, a4, a5, a6, a7, a8⟩ := hD
  go_wp2_with fail
  refine (toHTML_doc w2 rk pk tb ig ic gl n lc x2 y2 x2 y2 x y none s xs (all) a1 a2 a3 a4 a7 a8 a5 (by omega) hlim hsz hau).mono ?_
  rintro e w3 ⟨rfl, hm3⟩
  go_wp2_with fail
  go_ret
  exact ⟨rfl, ((hm.trans hm1).trans hm2).trans hm3⟩

theorem impl_HTML (s : ByteArray) (w : World) (hs : OneLine s) (all : List Pc) (hg : Plan s 0 0 all)
    (hlim : ∀ i, ((([] : List UInt8) ++ pOpen) ++ ((all).take i).flatMap outPc).length ≤ 10000000) (hsz : ∀ t, Pc.plain t ∈ all ∨ Pc.esc t ∈ all ∨ Pc.tag t ∈ all → t.size ≤ 1000000) (hau : ∀ t u, Pc.auto t u ∉ all) :
    Calls Tryz.prog 16 #[.agg #[.bool false, .bool false, .bool false, .bool false, .bool false, .bool false, .bool false, .bool false, .bool false, .bool false], .string s] w fun e w' => e = .returned (.string ⟨(pOpen ++ (all).flatMap outPc ++ pClose).toArray⟩) ∧ Same w w' :=
  impl_HTML_of s w (by have := hs.small; omega) all (fun pp w1 hO => parser_Parse pp s w1 hs all hg hO) hlim hsz (fun t u h => absurd h (hau t u))
end Go.Proofs.YtmmopoofheblbaaGreatDoor

/- The laws' own functions: IsPunct, filled, printable. -/
namespace Go.Proofs.YtmmopoofheblbaaGreatDoor
open Go Go.RowKit Go.Proofs

set_option maxHeartbeats 4000000 in
theorem spec_IsPunct (c : UInt8) (w : World) :
    Calls Tryz.prog 66 #[.int .u8 c.toNat] w fun e w' => e = .returned (.bool (punct c)) ∧ w = w' := by
  have hc : punct c = ((33 ≤ c.toNat && c.toNat ≤ 47) || (58 ≤ c.toNat && c.toNat ≤ 64) || (91 ≤ c.toNat && c.toNat ≤ 96) || (123 ≤ c.toNat && c.toNat ≤ 126)) := rfl
  generalize punct c = b at *
  have HC := Lib.hid hc
  clear hc
  go_enter Tryz.func66, Tryz.ntmps66
  go_wp2_with fail
  all_goals
    go_ret
    refine ⟨congrArg (fun b => Ending.returned (.bool b)) ?_, rfl⟩
    rw [HC.out, Bool.eq_iff_iff]
    simp
    omega

/-- Every byte from i on is printable. -/
def prFrom (s : ByteArray) (i : Nat) : Bool := if h : i < s.size then (32 ≤ s[i].toNat && s[i].toNat ≤ 126 && prFrom s (i + 1)) else true
termination_by s.size - i

set_option maxHeartbeats 4000000 in
theorem printable_any (s : ByteArray) (m : Nat) (w : World) (_hm8 : m ≤ 100000000) :
    Calls Tryz.prog 40 #[.string s, .int .i64 m] w fun e w' => e = .returned (.bool (decide (s.size ≤ m) && prFrom s 0)) ∧ w = w' := by
  by_cases hm : s.size ≤ m
  · have w0 : ¬ ((m : Int) < s.size) := by omega
    have hd : decide (s.size ≤ m) = true := by simpa using hm
    rw [hd, Bool.true_and]
    clear hd
    go_enter Tryz.func40, Tryz.ntmps40
    go_wp2_with fail
    go_loopg [12] s.size (fun k v wr => ∃ i : Nat, v = .int .i64 i ∧ k = s.size - i ∧ i ≤ s.size ∧ prFrom s i = prFrom s 0 ∧ w = wr)
    case atStart => exact ⟨0, rfl, rfl, Nat.zero_le _, rfl, rfl⟩
    case round =>
      obtain ⟨i, rfl, rfl, hi, hp, rfl⟩ := hrel
      have HP := Lib.hid hp
      clear hp
      by_cases hlt : i < s.size
      · have w1 : (i : Int) < s.size := by omega
        have w2 : (0 : Int) ≤ i := by omega
        have w3 : IntKind.i64.wrap ((i : Int) + 1) = (i : Int) + 1 := IntWalk.i64_in _ (by omega)
        have hun : prFrom s i = (32 ≤ s[i].toNat && s[i].toNat ≤ 126 && prFrom s (i + 1)) := by rw [prFrom, dif_pos hlt]
        have HU := Lib.hid hun
        clear hun
        by_cases hc : 32 ≤ s[i].toNat ∧ s[i].toNat ≤ 126
        · have c1 : ¬ ((s[i].toNat : Int) < 32) := by omega
          have c2 : ¬ ((126 : Int) < s[i].toNat) := by omega
          have Hc := Lib.hid hc
          clear hc
          go_wp2_with fail
          go_roundg (s.size - (i + 1))
          case measure => omega
          case rel => exact ⟨i + 1, by simp, rfl, by omega, by rw [← HP.out, HU.out]; simp [Hc.out.1, Hc.out.2], rfl⟩
        · have hf : prFrom s 0 = false := by
            rw [← HP.out, HU.out]
            by_cases h1 : 32 ≤ s[i].toNat
            · have : ¬ s[i].toNat ≤ 126 := fun h => hc ⟨h1, h⟩
              simp [this]
            · simp [h1]
          have HF := Lib.hid hf
          by_cases h1 : (s[i].toNat : Int) < 32
          · clear hc hf
            go_wp2_with fail
            go_ret
            exact ⟨by rw [HF.out]; rfl, rfl⟩
          · have h2 : (126 : Int) < s[i].toNat := by omega
            clear hc hf
            go_wp2_with fail
            go_ret
            exact ⟨by rw [HF.out]; rfl, rfl⟩
      · have hin : i = s.size := by omega
        have w1 : ¬ ((i : Int) < s.size) := by omega
        have ht : prFrom s 0 = true := by rw [← HP.out, hin, prFrom, dif_neg (Nat.lt_irrefl _)]
        have HT := Lib.hid ht
        clear ht
        go_wp2_with fail
        go_ret
        exact ⟨by rw [HT.out]; rfl, rfl⟩
  · have w0 : (m : Int) < s.size := by omega
    have hd : decide (s.size ≤ m) = false := by simpa using hm
    rw [hd, Bool.false_and]
    clear hd
    go_enter Tryz.func40, Tryz.ntmps40
    go_wp2_with fail
    go_ret
    exact ⟨rfl, rfl⟩
end Go.Proofs.YtmmopoofheblbaaGreatDoor

/- The laws' own functions: filled. -/
namespace Go.Proofs.YtmmopoofheblbaaGreatDoor
open Go Go.RowKit Go.Proofs

def fillOk (s : ByteArray) : Bool := if h : 0 < s.size then (!((s[0].toNat : Int) == 32)) && (!(((s[s.size - 1]'(by omega)).toNat : Int) == 32)) else false

set_option maxHeartbeats 4000000 in
theorem filled_any (s : ByteArray) (w : World) (hs : s.size ≤ 100000000) :
    Calls Tryz.prog 41 #[.string s] w fun e w' => e = .returned (.bool (fillOk s)) ∧ w = w' := by
  by_cases h : 0 < s.size
  · have hf : fillOk s = ((!((s[0].toNat : Int) == 32)) && (!(((s[s.size - 1]'(by omega)).toNat : Int) == 32))) := by unfold fillOk; rw [dif_pos h]
    have HF := Lib.hid hf
    clear hf
    have e0 : s.toList.isEmpty = false := bs_ne h
    have e0' : (!s.toList.isEmpty) = true := by rw [e0]; rfl
    have w1 : (0 : Int) < s.size := by omega
    have w2 : IntKind.i64.wrap ((s.size : Int) - 1) = (s.size : Int) - 1 := IntWalk.i64_in _ (by omega)
    have w3 : (0 : Int) ≤ (s.size : Int) - 1 := by omega
    have w4 : ((s.size : Int) - 1).toNat = s.size - 1 := by omega
    have w5 : (s.size : Int) - 1 < s.size := by omega
    go_enter Tryz.func41, Tryz.ntmps41
    go_wp2_with fail
    all_goals
      go_ret
      refine ⟨congrArg (fun b => Ending.returned (.bool b)) ?_, rfl⟩
      rw [HF.out]
      first | rfl | simp_all
  · have hf : fillOk s = false := by unfold fillOk; rw [dif_neg h]
    have hz : s = ⟨#[]⟩ := by
      apply ByteArray.ext_getElem
      · show s.size = 0; omega
      · intro i h1 h2; omega
    subst hz
    have HF := Lib.hid hf
    clear hf
    go_enter Tryz.func41, Tryz.ntmps41
    go_wp2_with fail
    go_ret
    exact ⟨by rw [HF.out]; rfl, rfl⟩
end Go.Proofs.YtmmopoofheblbaaGreatDoor
