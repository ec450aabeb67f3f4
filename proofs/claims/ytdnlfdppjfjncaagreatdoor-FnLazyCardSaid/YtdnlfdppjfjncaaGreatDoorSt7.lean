/- Some texts of one proof, put into one file: EmphP, EmphQ, EmphW, EmphZ, Emph4, EmphT, StruckP, MergeK. -/
import Derived.LoopN
import Derived.Deep.LoopGhost
import Derived.Deep.RegionHeld3
import Derived.Test.YtdnlfdppjfjncaaGreatDoorSt3
import Derived.Test.YtdnlfdppjfjncaaGreatDoorSt6
/- parseEmph at a mark that stands beside a word. -/
namespace Go.Proofs.YtdnlfdppjfjncaaGreatDoor.G
open Go Go.RowKit Go.Proofs

/-- A letter or a digit. -/
def Wd (c : UInt8) : Prop := (48 ≤ c.toNat ∧ c.toNat ≤ 57) ∨ (65 ≤ c.toNat ∧ c.toNat ≤ 90) ∨ (97 ≤ c.toNat ∧ c.toNat ≤ 122)
/-- A letter, a digit or a space: which. -/
def WS (c : UInt8) (sp : Bool) : Prop := (sp = true ∧ c = 32) ∨ (sp = false ∧ Wd c)
theorem WS.lt {c : UInt8} {b : Bool} (h : WS c b) : c.toNat < 128 := by
  rcases h with ⟨_, rfl⟩ | ⟨_, h⟩
  · decide
  · rcases h with h | h | h <;> omega
theorem WS.pn {c : UInt8} {b : Bool} (h : WS c b) : punct c = false := by
  rcases h with ⟨_, rfl⟩ | ⟨_, h⟩
  · decide
  · unfold punct
    simp only [Bool.or_eq_false_iff, Bool.and_eq_false_iff, decide_eq_false_iff_not]
    rcases h with h | h | h <;> omega

theorem decode_ascii (s : ByteArray) (w : World) (h0 : 0 < s.size) (hc : s[0].toNat < 128) (hs : s.size ≤ 1000000) :
    Calls Tryz.prog 115 #[.string s] w fun e w' => e = .returned (.tuple #[.int .i32 s[0].toNat, .int .i64 1]) ∧ w = w' := by
  have w1 : (s[0].toNat : Int) < 128 := by omega
  have w2 : IntKind.i32.wrap (s[0].toNat : Int) = (s[0].toNat : Int) := IntWalk.i32_in _ (by omega)
  have w3 : (0 : Int) < s.size := by omega
  have e0 : s.toList.isEmpty = false := bs_ne h0
  go_enter Tryz.func115, Tryz.ntmps115
  go_wp2_with fail
  go_ret2
  exact ⟨rfl, rfl⟩

set_option maxRecDepth 100000 in
set_option maxHeartbeats 2000000 in
theorem decodeLast_ascii (s : ByteArray) (w : World) (h0 : 0 < s.size) (hc : s[s.size - 1].toNat < 128) (hs : s.size ≤ 1000000) :
    Calls Tryz.prog 114 #[.string s] w fun e w' => e = .returned (.tuple #[.int .i32 s[s.size - 1].toNat, .int .i64 1]) ∧ w = w' := by
  have w1 : (s[s.size - 1].toNat : Int) < 128 := by omega
  have w2 : IntKind.i32.wrap (s[s.size - 1].toNat : Int) = (s[s.size - 1].toNat : Int) := IntWalk.i32_in _ (by omega)
  have w3 : IntKind.i64.wrap ((s.size : Int) - 1) = (s.size : Int) - 1 := IntWalk.i64_in _ (by omega)
  have w4 : ((s.size : Int) - 1).toNat = s.size - 1 := by omega
  have w5 : (0 : Int) ≤ (s.size : Int) - 1 := by omega
  have w6 : (s.size : Int) - 1 < s.size := by omega
  have w7 : ((s.size : Int) == 0) = false := beq_eq_false_iff_ne.2 (by omega)
  go_enter Tryz.func114, Tryz.ntmps114
  go_wp2_with fail
  go_ret2
  exact ⟨rfl, rfl⟩

theorem uniSpace_ws (c : UInt8) (b : Bool) (w : World) (h : WS c b) :
    Calls Tryz.prog 116 #[.int .i32 c.toNat] w fun e w' => e = .returned (.bool b) ∧ w = w' := by
  have hl := h.lt
  have w1 : (c.toNat : Int) < 128 := by omega
  rcases h with ⟨rfl, rfl⟩ | ⟨rfl, h⟩
  · clear hl w1
    go_enter Tryz.func116, Tryz.ntmps116
    go_wp2_with fail
    go_ret
    exact ⟨rfl, rfl⟩
  · have d1 : ((c.toNat : Int) == 32) = false := beq_eq_false_iff_ne.2 (by rcases h with h | h | h <;> omega)
    have d2 : ((c.toNat : Int) == 9) = false := beq_eq_false_iff_ne.2 (by rcases h with h | h | h <;> omega)
    have d3 : ((c.toNat : Int) == 12) = false := beq_eq_false_iff_ne.2 (by rcases h with h | h | h <;> omega)
    have d4 : ((c.toNat : Int) == 10) = false := beq_eq_false_iff_ne.2 (by rcases h with h | h | h <;> omega)
    clear h hl
    go_enter Tryz.func116, Tryz.ntmps116
    go_wp2_with fail
    go_ret
    exact ⟨rfl, rfl⟩

theorem uniPunct_ws (c : UInt8) (b : Bool) (w : World) (h : WS c b) :
    Calls Tryz.prog 117 #[.int .i32 c.toNat] w fun e w' => e = .returned (.bool false) ∧ w = w' := by
  have hl := h.lt
  have hp := h.pn
  have w1 : (c.toNat : Int) < 128 := by omega
  have w2 : IntKind.u8.wrap (c.toNat : Int) = (c.toNat : Int) := IntWalk.u8_in _ (by omega)
  clear h hl
  go_enter Tryz.func117, Tryz.ntmps117
  go_wp2_with fail
  refine (isPunct_any c w).mono ?_
  rintro e w' ⟨rfl, rfl⟩
  rw [hp]
  go_wp2_with fail
  go_ret
  exact ⟨rfl, rfl⟩
end Go.Proofs.YtdnlfdppjfjncaaGreatDoor.G

/- parseEmph: what it makes of a mark beside a word. -/
namespace Go.Proofs.YtdnlfdppjfjncaaGreatDoor.G
open Go Go.RowKit Go.Proofs

/-- A mark of emphasis. -/
def mark (t : ByteArray) (o cl : Bool) (n : Nat) : Pc := ⟨190, 192, #[.string t, .bool o, .bool cl, .int .i64 0, .int .i64 n]⟩
theorem mark_ok (t : ByteArray) (o cl : Bool) (n : Nat) : (mark t o cl n).Ok := ⟨by show 190 ≠ 134; decide, by show 192 ≠ 95; decide, by show 192 ≠ 132; decide⟩

theorem before_at (s : ByteArray) (k : Nat) (b : Bool) (hs : s.size ≤ 1000000) (hk : 0 < k) (hks : k ≤ s.size) (hB : WS (s[k - 1]'(by omega)) b) (W : World) :
    Calls Tryz.prog 114 #[.string (s.extract 0 k)] W fun e w' => e = .returned (.tuple #[.int .i32 (s[k - 1]'(by omega)).toNat, .int .i64 1]) ∧ W = w' := by
  have hz : (s.extract 0 k).size = k := by rw [ByteArray.size_extract]; omega
  have hl : (s.extract 0 k)[(s.extract 0 k).size - 1]'(by omega) = s[k - 1]'(by omega) := by
    rw [ByteArray.getElem_extract]
    congr 1
    omega
  have h := decodeLast_ascii (s.extract 0 k) W (by omega) (by rw [hl]; exact hB.lt) (by omega)
  rw [hl] at h
  exact h
theorem after_at (s : ByteArray) (j : Nat) (a : Bool) (hs : s.size ≤ 1000000) (hj : j < s.size) (hA : WS s[j] a) (W : World) :
    Calls Tryz.prog 115 #[.string (s.extract j s.size)] W fun e w' => e = .returned (.tuple #[.int .i32 s[j].toNat, .int .i64 1]) ∧ W = w' := by
  have hz : (s.extract j s.size).size = s.size - j := by rw [ByteArray.size_extract]; omega
  have hl : (s.extract j s.size)[0]'(by omega) = s[j] := by
    rw [ByteArray.getElem_extract]
    rfl
  have h := decode_ascii (s.extract j s.size) W (by omega) (by rw [hl]; exact hA.lt) (by omega)
  rw [hl] at h
  exact h

def MarkOut (W : World) (bp : Nat) (q : PSt) (pc : Pc) (st en : Nat) (e : Ending) (w' : World) : Prop :=
  ∃ b c, e = .returned (.tuple #[.iface pc.ty (.pointer (some ⟨b, 0, none⟩)), .int .i64 st, .int .i64 en, .bool true]) ∧ Mods (fun k => k = bp) W w' ∧ PsAt w' bp { q with corner := c } ∧ W.heap.size ≤ b ∧ Blk w' b pc.cells pc.bty
theorem mark_end {W w1 : World} {bp : Nat} {q : PSt} {t : ByteArray} {o cl : Bool} {n : Nat} {c : Bool} (hm : Mods (fun k => k = bp) W w1) (hp : PsAt w1 bp { q with corner := c }) :
    Mods (fun k => k = bp) W (w1.alloc (.cells (mark t o cl n).cells (mark t o cl n).bty)) ∧ PsAt (w1.alloc (.cells (mark t o cl n).cells (mark t o cl n).bty)) bp { q with corner := c } ∧ W.heap.size ≤ w1.heap.size ∧
      Blk (w1.alloc (.cells (mark t o cl n).cells (mark t o cl n).bty)) w1.heap.size (mark t o cl n).cells (mark t o cl n).bty :=
  ⟨hm.alloc _, hp.same ((Mods.refl _ _).alloc _), hm.size, Blk.newAt _ _ rfl⟩

set_option maxRecDepth 100000 in
set_option maxHeartbeats 8000000 in
theorem quote_call (s : ByteArray) (k : Nat) (c : UInt8) (a b o cl : Bool) (hs : s.size ≤ 1000000) (hk : 0 < k) (hkn : k + 1 < s.size) (hc : c = 34 ∨ c = 39) (hsk : s[k] = c) (hB : WS (s[k - 1]'(by omega)) b) (hA : WS s[k + 1] a)
    (hab : (a = false ∧ b = true ∧ o = true ∧ cl = false) ∨ (a = true ∧ b = false ∧ o = false ∧ cl = true) ∨ (a = false ∧ b = false ∧ o = false ∧ cl = true)) :
    PieceCall s k 81 (mark (s.extract k (k + 1)) o cl 1) k (k + 1) := by
  intro bp q W hq
  have w1 : (k : Int) < s.size := by omega
  have w2 : (0 : Int) ≤ k := by omega
  have w3 : IntKind.i64.wrap ((k : Int) + 1) = (k : Int) + 1 := IntWalk.i64_in _ (by omega)
  have w4 : IntKind.i64.wrap ((k : Int) + 1 - k) = 1 := by rw [show (k : Int) + 1 - k = 1 by omega]; exact IntWalk.i64_in _ (by omega)
  have w5 : ¬ ((s.size : Int) ≤ (k : Int) + 1) := by omega
  have w6 : ((k : Int) == 0) = false := beq_eq_false_iff_ne.2 (by omega)
  have w6' : ¬ k = 0 := by omega
  have w7 : (k : Int) ≤ s.size := by omega
  have w8 : (k : Int) + 1 ≤ s.size := by omega
  have w9 : (0 : Int) ≤ (k : Int) + 1 := by omega
  have w10 : ((k : Int) + 1).toNat = k + 1 := by omega
  have w11 : (k : Int) ≤ (k : Int) + 1 := by omega
  have HBE := Lib.hid (before_at s k b hs hk (by omega) hB)
  have HAF := Lib.hid (after_at s (k + 1) a hs hkn hA)
  have hb9 := hB.lt
  have n1 : ((s[k - 1].toNat : Int) != 93) = true := bne_iff_ne.2 (by rcases hB with ⟨_, h⟩ | ⟨_, h | h | h⟩ <;> first | (rw [h]; decide) | omega)
  have n2 : ((s[k - 1].toNat : Int) != 41) = true := bne_iff_ne.2 (by rcases hB with ⟨_, h⟩ | ⟨_, h | h | h⟩ <;> first | (rw [h]; decide) | omega)
  have HB := Lib.hid hB
  have HA := Lib.hid hA
  clear hB hA
  have hq' : PsAt W bp { q with corner := q.corner } := hq
  have HQ := Lib.hid hq'
  clear hq hq'
  go_enter Tryz.func81, Tryz.ntmps81
  rcases hc with rfl | rfl
  all_goals
    rcases hab with ⟨rfl, rfl, rfl, rfl⟩ | ⟨rfl, rfl, rfl, rfl⟩ | ⟨rfl, rfl, rfl, rfl⟩
    · go_wp2_with fail
      refine (HBE.out W).mono ?_
      rintro e w' ⟨rfl, rfl⟩
      go_wp2_with fail
      refine (HAF.out W).mono ?_
      rintro e w' ⟨rfl, rfl⟩
      go_wp2_with fail
      refine (uniSpace_ws _ _ W HA.out).mono ?_
      rintro e w' ⟨rfl, rfl⟩
      go_wp2_with fail
      refine (uniPunct_ws _ _ W HA.out).mono ?_
      rintro e w' ⟨rfl, rfl⟩
      go_wp2_with fail
      refine (uniSpace_ws _ _ W HB.out).mono ?_
      rintro e w' ⟨rfl, rfl⟩
      go_wp2_with fail
      exact bodyPost_ret (v := .tuple #[.iface (mark (s.extract k (k + 1)) true false 1).ty (.pointer (some ⟨W.heap.size, 0, none⟩)), .int .i64 k, .int .i64 ((k + 1 : Nat) : Int), .bool true]) (by simp [results, Tryz.results81, go_sem, mark]) rfl
        ⟨W.heap.size, q.corner, rfl, mark_end (Mods.refl _ _) HQ.out⟩
    · go_wp2_with fail
      refine (HBE.out W).mono ?_
      rintro e w' ⟨rfl, rfl⟩
      go_wp2_with fail
      refine (HAF.out W).mono ?_
      rintro e w' ⟨rfl, rfl⟩
      go_wp2_with fail
      refine (uniSpace_ws _ _ W HA.out).mono ?_
      rintro e w' ⟨rfl, rfl⟩
      go_wp2_with fail
      refine (uniSpace_ws _ _ W HB.out).mono ?_
      rintro e w' ⟨rfl, rfl⟩
      go_wp2_with fail
      refine (uniPunct_ws _ _ W HB.out).mono ?_
      rintro e w' ⟨rfl, rfl⟩
      go_wp2_with fail
      exact bodyPost_ret (v := .tuple #[.iface (mark (s.extract k (k + 1)) false true 1).ty (.pointer (some ⟨W.heap.size, 0, none⟩)), .int .i64 k, .int .i64 ((k + 1 : Nat) : Int), .bool true]) (by simp [results, Tryz.results81, go_sem, mark]) rfl
        ⟨W.heap.size, q.corner, rfl, mark_end (Mods.refl _ _) HQ.out⟩
    · go_wp2_with fail
      refine (HBE.out W).mono ?_
      rintro e w' ⟨rfl, rfl⟩
      go_wp2_with fail
      refine (HAF.out W).mono ?_
      rintro e w' ⟨rfl, rfl⟩
      go_wp2_with fail
      refine (uniSpace_ws _ _ W HA.out).mono ?_
      rintro e w' ⟨rfl, rfl⟩
      go_wp2_with fail
      refine (uniPunct_ws _ _ W HA.out).mono ?_
      rintro e w' ⟨rfl, rfl⟩
      go_wp2_with fail
      refine (uniSpace_ws _ _ W HB.out).mono ?_
      rintro e w' ⟨rfl, rfl⟩
      go_wp2_with fail
      refine (uniPunct_ws _ _ W HB.out).mono ?_
      rintro e w' ⟨rfl, rfl⟩
      go_wp2_with fail
      exact bodyPost_ret (v := .tuple #[.iface (mark (s.extract k (k + 1)) false true 1).ty (.pointer (some ⟨W.heap.size, 0, none⟩)), .int .i64 k, .int .i64 ((k + 1 : Nat) : Int), .bool true]) (by simp [results, Tryz.results81, go_sem, mark]) rfl
        ⟨W.heap.size, q.corner, rfl, mark_end (Mods.refl _ _) HQ.out⟩
end Go.Proofs.YtdnlfdppjfjncaaGreatDoor.G

/- What emph holds from round to round. -/
namespace Go.Proofs.YtdnlfdppjfjncaaGreatDoor
open Go Go.RowKit Go.Proofs

/-- A value of the list that is no mark and no bracket. -/
structure Quiet (T : Nat) : Prop where
  open_ : ∀ X v W, (Instr.typeAssert (.iface T v) X 134 true).run Tryz.prog W = .ok (.tuple #[.pointer none, .bool false]) W
  emph : ∀ X v W, (Instr.typeAssert (.iface T v) X 190 true).run Tryz.prog W = .ok (.tuple #[.pointer none, .bool false]) W
theorem as_open_mark (X : Nat) (v : Value) (w : World) : (Instr.typeAssert (.iface 190 v) X 134 true).run Tryz.prog w = .ok (.tuple #[.pointer none, .bool false]) w :=
  as_ptr_no _ 134 139 (by kernel_rfl) (fun _ => by kernel_rfl) X v w (by decide)
theorem as_mark_yes (X : Nat) (v : Value) (w : World) : (Instr.typeAssert (.iface 190 v) X 190 true).run Tryz.prog w = .ok (.tuple #[v, .bool true]) w := by kernel_rfl

/-- What emph holds at the begin of a round: dst has d places of the row xs; the stacks; the two marks. -/
structure Em (w wr : World) (g n cap D S m1 m2 d : Nat) (xs : List Value) (sa a1 a2 : Array Value) : Prop where
  mods : Mods (fun k => k = g ∨ k = m1 ∨ k = m2) w wr
  fD : w.heap.size ≤ D
  fS : w.heap.size ≤ S
  D : Blk wr D #[.slice (some ⟨g, 0, none⟩) d cap] 88
  S : Blk wr S sa 210
  row : wr.ownsRow 0 132 1 (.slice (some ⟨g, 0, none⟩) n cap) n xs
  b1 : Blk wr m1 a1 192
  b2 : Blk wr m2 a2 192
  pos : 0 < n

section
variable {w wr : World} {g n cap D S m1 m2 d : Nat} {xs : List Value} {sa a1 a2 : Array Value}
theorem Em.gblk (h : Em w wr g n cap D S m1 m2 d xs sa a1 a2) : ∃ cur, Blk wr g cur 132 := by
  obtain ⟨_, _, he, hcur, _, _⟩ := ownsRow_form h.row h.pos
  cases he
  exact hcur
theorem Em.same {w2 : World} (h : Em w wr g n cap D S m1 m2 d xs sa a1 a2) (hm : Same wr w2) : Em w w2 g n cap D S m1 m2 d xs sa a1 a2 :=
  ⟨h.mods.then hm (fun _ _ x => absurd x (fun x => x)), h.fD, h.fS, hm.blk h.D, hm.blk h.S, ownsRow_keep h.row hm (fun _ _ x => x), hm.blk h.b1, hm.blk h.b2, h.pos⟩
theorem Em.cells (h : Em w wr g n cap D S m1 m2 d xs sa a1 a2) : wr.cell? ⟨D, 0, none⟩ = some (.slice (some ⟨g, 0, none⟩) d cap) ∧ wr.frozen? ⟨D, 0, none⟩ = false ∧ D < wr.heap.size := ⟨h.D.cell 0, h.D.fr 0, h.D.lt⟩
theorem Em.src (h : Em w wr g n cap D S m1 m2 d xs sa a1 a2) (i : Nat) (u : Value) (hu : xs[i]? = some u) : wr.cell? ⟨g, i, none⟩ = some u := by
  obtain ⟨_, _, he, _, _, hc⟩ := ownsRow_form h.row h.pos
  cases he
  exact hc i _ hu
/-- One place of the row is written, and dst made longer. -/
theorem Em.app {w1 wB : World} {xs' : List Value} (h : Em w wr g n cap D S m1 m2 d xs sa a1 a2) (h1 : Same wr w1) (hm : Mods (fun k => k = g) w1 wB) (hr : wB.ownsRow 0 132 1 (.slice (some ⟨g, 0, none⟩) n cap) n xs') :
    Em w wB g n cap D S m1 m2 d xs' sa a1 a2 := by
  have h2 := h.same h1
  obtain ⟨cur, hcur⟩ := h2.gblk
  refine ⟨h2.mods.then hm (fun _ _ x => Or.inl x), h.fD, h.fS, h2.D.keep1 hm (h2.D.ne_of_type hcur (by decide)), h2.S.keep1 hm (h2.S.ne_of_type hcur (by decide)), hr, h2.b1.keep1 hm (h2.b1.ne_of_type hcur (by decide)), h2.b2.keep1 hm (h2.b2.ne_of_type hcur (by decide)), h.pos⟩
theorem Em.setD (h : Em w wr g n cap D S m1 m2 d xs sa a1 a2) (d' : Nat) : Em w (wr.setCell ⟨D, 0, none⟩ (.slice (some ⟨g, 0, none⟩) d' cap)) g n cap D S m1 m2 d' xs sa a1 a2 := by
  have hm : Mods (fun k => k = D) wr (wr.setCell ⟨D, 0, none⟩ (.slice (some ⟨g, 0, none⟩) d' cap)) := (Mods.refl (fun k => k = D) wr).setCell (p := ⟨D, 0, none⟩) (fun _ => rfl) _
  obtain ⟨cur, hcur⟩ := h.gblk
  have hd := h.fD
  refine ⟨h.mods.then hm (fun b hb x => by omega), h.fD, h.fS, h.D.set_same 0 _, h.S.keep1 hm (h.S.ne_of_type h.D (by decide)), ownsRow_keep h.row hm (fun b hb x => by cases hb; exact hcur.ne_of_type h.D (by decide) x), h.b1.keep1 hm (h.b1.ne_of_type h.D (by decide)), h.b2.keep1 hm (h.b2.ne_of_type h.D (by decide)), h.pos⟩
theorem Em.setI (h : Em w wr g n cap D S m1 m2 d xs sa a1 a2) (hm12 : m1 ≠ m2) (j : Nat) (v : Value) : Em w (wr.setCell ⟨m1, j, none⟩ v) g n cap D S m1 m2 d xs sa (a1.setIfInBounds j v) a2 := by
  have hm : Mods (fun k => k = m1) wr (wr.setCell ⟨m1, j, none⟩ v) := (Mods.refl (fun k => k = m1) wr).setCell (p := ⟨m1, j, none⟩) (fun _ => rfl) _
  obtain ⟨cur, hcur⟩ := h.gblk
  exact ⟨h.mods.then hm (fun b hb x => Or.inr (Or.inl x)), h.fD, h.fS, h.D.keep1 hm (h.D.ne_of_type h.b1 (by decide)), h.S.keep1 hm (h.S.ne_of_type h.b1 (by decide)), ownsRow_keep h.row hm (fun b hb x => by cases hb; exact hcur.ne_of_type h.b1 (by decide) x), h.b1.set_same j _, h.b2.keep1 hm (fun e => hm12 e.symm), h.pos⟩
theorem Em.setJ (h : Em w wr g n cap D S m1 m2 d xs sa a1 a2) (hm12 : m1 ≠ m2) (j : Nat) (v : Value) : Em w (wr.setCell ⟨m2, j, none⟩ v) g n cap D S m1 m2 d xs sa a1 (a2.setIfInBounds j v) := by
  have hm : Mods (fun k => k = m2) wr (wr.setCell ⟨m2, j, none⟩ v) := (Mods.refl (fun k => k = m2) wr).setCell (p := ⟨m2, j, none⟩) (fun _ => rfl) _
  obtain ⟨cur, hcur⟩ := h.gblk
  exact ⟨h.mods.then hm (fun b hb x => Or.inr (Or.inr x)), h.fD, h.fS, h.D.keep1 hm (h.D.ne_of_type h.b2 (by decide)), h.S.keep1 hm (h.S.ne_of_type h.b2 (by decide)), ownsRow_keep h.row hm (fun b hb x => by cases hb; exact hcur.ne_of_type h.b2 (by decide) x), h.b1.keep1 hm hm12, h.b2.set_same j _, h.pos⟩
theorem Em.setS (h : Em w wr g n cap D S m1 m2 d xs sa a1 a2) (j : Nat) (v : Value) : Em w (wr.setCell ⟨S, j, none⟩ v) g n cap D S m1 m2 d xs (sa.setIfInBounds j v) a1 a2 := by
  have hm : Mods (fun k => k = S) wr (wr.setCell ⟨S, j, none⟩ v) := (Mods.refl (fun k => k = S) wr).setCell (p := ⟨S, j, none⟩) (fun _ => rfl) _
  obtain ⟨cur, hcur⟩ := h.gblk
  have hs := h.fS
  exact ⟨h.mods.then hm (fun b hb x => by omega), h.fD, h.fS, h.D.keep1 hm (h.D.ne_of_type h.S (by decide)), h.S.set_same j _, ownsRow_keep h.row hm (fun b hb x => by cases hb; exact hcur.ne_of_type h.S (by decide) x), h.b1.keep1 hm (h.b1.ne_of_type h.S (by decide)), h.b2.keep1 hm (h.b2.ne_of_type h.S (by decide)), h.pos⟩
theorem Em.grown {w2 : World} (h : Em w wr g n cap D S m1 m2 d xs sa a1 a2) (hm : Same wr w2) : Em w w2 g n cap D S m1 m2 d xs sa a1 a2 := h.same hm
theorem Em.m1c (h : Em w wr g n cap D S m1 m2 d xs sa a1 a2) (j : Nat) : wr.cell? ⟨m1, j, none⟩ = a1[j]? ∧ wr.frozen? ⟨m1, j, none⟩ = false ∧ m1 < wr.heap.size := ⟨h.b1.cell j, h.b1.fr j, h.b1.lt⟩
theorem Em.m2c (h : Em w wr g n cap D S m1 m2 d xs sa a1 a2) (j : Nat) : wr.cell? ⟨m2, j, none⟩ = a2[j]? ∧ wr.frozen? ⟨m2, j, none⟩ = false ∧ m2 < wr.heap.size := ⟨h.b2.cell j, h.b2.fr j, h.b2.lt⟩
theorem Em.sc (h : Em w wr g n cap D S m1 m2 d xs sa a1 a2) (j : Nat) : wr.cell? ⟨S, j, none⟩ = sa[j]? ∧ wr.frozen? ⟨S, j, none⟩ = false ∧ S < wr.heap.size := ⟨h.S.cell j, h.S.fr j, h.S.lt⟩
end

/-- A row of marks is not touched by a store into the stacks. -/
theorem row_set3 {w wr : World} {g n cap D S m1 m2 d : Nat} {xs : List Value} {sa a1 a2 : Array Value} (h : Em w wr g n cap D S m1 m2 d xs sa a1 a2) {sg sc k : Nat} {ys : List Value} (hr : wr.ownsRow 0 190 1 (.slice (some ⟨sg, 0, none⟩) k sc) k ys) (j : Nat) (v : Value) :
    (wr.setCell ⟨S, j, none⟩ v).ownsRow 0 190 1 (.slice (some ⟨sg, 0, none⟩) k sc) k ys := by
  have hm : Mods (fun k => k = S) wr (wr.setCell ⟨S, j, none⟩ v) := (Mods.refl (fun k => k = S) wr).setCell (p := ⟨S, j, none⟩) (fun _ => rfl) _
  exact ownsRow_keep hr hm (fun b hb x => own_ne hr h.S (by decide) (by rw [← x]; exact hb))

theorem row_app {w wr w1 wB : World} {g n cap D S m1 m2 d : Nat} {xs : List Value} {sa a1 a2 : Array Value} (h : Em w wr g n cap D S m1 m2 d xs sa a1 a2) {sg sc k : Nat} {ys : List Value} (hr : wr.ownsRow 0 190 1 (.slice (some ⟨sg, 0, none⟩) k sc) k ys) (h1 : Same wr w1) (hm : Mods (fun k => k = g) w1 wB) :
    wB.ownsRow 0 190 1 (.slice (some ⟨sg, 0, none⟩) k sc) k ys := by
  have hr1 := ownsRow_keep hr h1 (fun _ _ x => x)
  obtain ⟨cur, hcur⟩ := (h.same h1).gblk
  exact ownsRow_keep hr1 hm (fun b hb x => own_ne hr1 hcur (by decide) (by rw [← x]; exact hb))
theorem row_setD {w wr : World} {g n cap D S m1 m2 d : Nat} {xs : List Value} {sa a1 a2 : Array Value} (h : Em w wr g n cap D S m1 m2 d xs sa a1 a2) {sg sc k : Nat} {ys : List Value} (hr : wr.ownsRow 0 190 1 (.slice (some ⟨sg, 0, none⟩) k sc) k ys) (v : Value) :
    (wr.setCell ⟨D, 0, none⟩ v).ownsRow 0 190 1 (.slice (some ⟨sg, 0, none⟩) k sc) k ys := by
  have hm : Mods (fun k => k = D) wr (wr.setCell ⟨D, 0, none⟩ v) := (Mods.refl (fun k => k = D) wr).setCell (p := ⟨D, 0, none⟩) (fun _ => rfl) _
  exact ownsRow_keep hr hm (fun b hb x => own_ne hr h.D (by decide) (by rw [← x]; exact hb))

theorem db_app {w wr w1 wB : World} {g n cap D S m1 m2 d db : Nat} {xs : List Value} {sa a1 a2 cs : Array Value} (h : Em w wr g n cap D S m1 m2 d xs sa a1 a2) (hb : Blk wr db cs 216) (h1 : Same wr w1) (hm : Mods (fun k => k = g) w1 wB) : Blk wB db cs 216 := by
  obtain ⟨cur, hcur⟩ := (h.same h1).gblk
  have hb1 := h1.blk hb
  exact hb1.keep1 hm (hb1.ne_of_type hcur (by decide))
theorem db_setD {w wr : World} {g n cap D S m1 m2 d db : Nat} {xs : List Value} {sa a1 a2 cs : Array Value} (h : Em w wr g n cap D S m1 m2 d xs sa a1 a2) (hb : Blk wr db cs 216) (v : Value) : Blk (wr.setCell ⟨D, 0, none⟩ v) db cs 216 :=
  hb.keep1 ((Mods.refl (fun k => k = D) wr).setCell (p := ⟨D, 0, none⟩) (fun _ => rfl) _) (hb.ne_of_type h.D (by decide))
theorem ig_app {w wr w1 wB : World} {g n cap D S m1 m2 d ig ic : Nat} {xs ys : List Value} {sa a1 a2 : Array Value} (_h : Em w wr g n cap D S m1 m2 d xs sa a1 a2) (hr : wr.ownsRow 0 132 1 (.slice (some ⟨ig, 0, none⟩) 1 ic) 1 ys) (hne : ig ≠ g) (h1 : Same wr w1) (hm : Mods (fun k => k = g) w1 wB) :
    wB.ownsRow 0 132 1 (.slice (some ⟨ig, 0, none⟩) 1 ic) 1 ys :=
  ownsRow_keep (ownsRow_keep hr h1 (fun _ _ x => x)) hm (fun b hb x => by cases hb; exact hne x)
theorem ig_setD {w wr : World} {g n cap D S m1 m2 d ig ic : Nat} {xs ys : List Value} {sa a1 a2 : Array Value} (h : Em w wr g n cap D S m1 m2 d xs sa a1 a2) (hr : wr.ownsRow 0 132 1 (.slice (some ⟨ig, 0, none⟩) 1 ic) 1 ys) (v : Value) :
    (wr.setCell ⟨D, 0, none⟩ v).ownsRow 0 132 1 (.slice (some ⟨ig, 0, none⟩) 1 ic) 1 ys :=
  ownsRow_keep hr ((Mods.refl (fun k => k = D) wr).setCell (p := ⟨D, 0, none⟩) (fun _ => rfl) _) (fun b hb x => own_ne hr h.D (by decide) (by rw [← x]; exact hb))

theorem st_inl_at {w : World} {ops : Array Oper} {o : Oper} {a : Act} {K : Act → World → Prop} {Q : Exit → Act → World → Prop} {E : Prop} (hgd : o.guard = none) (s x : Operand) (ho : o.op = .call { callee := .builtin .append, args := #[s, x], argTypes := #[88, 88] })
    (v : Value) (n : Nat) (xs : List Value) (hs : a.eval s = v) (hown : w.ownsRow 0 132 1 v n xs)
    (b off c T : Nat) (u : Value) (hx : a.eval x = .slice (some ⟨b, off, none⟩) 1 c) (hu : w.cell? ⟨b, off, none⟩ = some (.iface T u)) (hn : n ≤ 1000000)
    (h : ∀ g cap w', w'.ownsRow 0 132 1 (.slice (some ⟨g, 0, none⟩) (n + 1) cap) (n + 1) (xs ++ [.iface T u]) → w.grownBy w' v.ownBlock → (v.ownBlock = some g ∨ g = w.heap.size) → K (a.put o.dst (.slice (some ⟨g, 0, none⟩) (n + 1) cap)) w') :
    if Region.wanted o (yielded ops a.tmps) = true then Oper.wp Tryz.prog o a w K Q else E := by
  have hi : (Tryz.prog.info? 132).map (fun i => (i.zero, i.size, i.bytes)) = some (some Value.nilIface, 1, 16) := by kernel_rfl
  obtain ⟨i0, hi0, hz⟩ := Option.map_eq_some_iff.1 hi
  simp only [Prod.mk.injEq] at hz
  obtain ⟨hz0, hz1, hz2⟩ := hz
  refine step_append_lies w hgd s x 88 ho 0 132 i0 .nilIface 1 16 Tryz.underlying88 hi0 hz0 hz1 hz2 rfl (by decide) v n xs hs hown ⟨b, off, none⟩ 1 c [.iface T u] hx rfl ?_ (fun y hy => by simp at hy; subst hy; rfl) (by omega) (by unfold maxLen; omega) ?_ (Nat.zero_le _) _ rfl (fun g cap w' h2 h3 h4 _ => h g cap w' h2 h3 h4)
  · intro j y hy
    cases j with
    | zero => simp at hy; subst hy; simpa [Addr.add_lit] using hu
    | succ j => simp at hy
  · omega

theorem stackOf_n (c : Nat) (k : Nat) (w : World) (h : (c = 126 ∧ k = 2) ∨ (c = 34 ∧ k = 3) ∨ (c = 39 ∧ k = 4)) :
    Calls Tryz.prog 129 #[.int .u8 c] w fun e w' => e = .returned (.int .i64 k) ∧ w = w' := by
  rcases h with ⟨rfl, rfl⟩ | ⟨rfl, rfl⟩ | ⟨rfl, rfl⟩
  · exact stackOf_at 126 2 w (Or.inl ⟨rfl, rfl⟩)
  · exact stackOf_at 34 3 w (Or.inr (Or.inl ⟨rfl, rfl⟩))
  · exact stackOf_at 39 4 w (Or.inr (Or.inr ⟨rfl, rfl⟩))
end Go.Proofs.YtdnlfdppjfjncaaGreatDoor

/- What emph holds behind the closing mark. -/
namespace Go.Proofs.YtdnlfdppjfjncaaGreatDoor
open Go Go.RowKit Go.Proofs

section
variable {w wr : World} {g n cap D S m1 m2 d : Nat} {xs : List Value} {sa a1 a2 : Array Value}
theorem two_mods (wr : World) (m1 m2 : Nat) (v1 v2 : Value) : Mods (fun k => k = m1 ∨ k = m2) wr ((wr.setCell ⟨m1, 0, none⟩ v1).setCell ⟨m2, 0, none⟩ v2) :=
  ((Mods.refl (fun k => k = m1 ∨ k = m2) wr).setCell (p := ⟨m1, 0, none⟩) (fun _ => Or.inl rfl) _).setCell (p := ⟨m2, 0, none⟩) (fun _ => Or.inr rfl) _
theorem two_blk (h : Em w wr g n cap D S m1 m2 d xs sa a1 a2) {Y : World} (hm : Mods (fun k => k = m1 ∨ k = m2) wr Y) {b T : Nat} {cs : Array Value} (hb : Blk wr b cs T) (hT : T ≠ 192) : Blk Y b cs T :=
  hb.keep hm (fun x => by rcases x with e | e; exact hb.ne_of_type h.b1 hT e; exact hb.ne_of_type h.b2 hT e)
theorem two_row (h : Em w wr g n cap D S m1 m2 d xs sa a1 a2) {Y : World} (hm : Mods (fun k => k = m1 ∨ k = m2) wr Y) {e size k : Nat} {v : Value} {ys : List Value} (hr : wr.ownsRow 0 e size v k ys) (hT : 192 ≠ e) : Y.ownsRow 0 e size v k ys :=
  ownsRow_keep hr hm (fun b hb x => by rcases x with e | e; exact own_ne hr h.b1 hT (by rw [← e]; exact hb); exact own_ne hr h.b2 hT (by rw [← e]; exact hb))
theorem Em.trimmed (h : Em w wr g n cap D S m1 m2 d xs sa a1 a2) {w2 : World} {sg sc : Nat} (ht : Trimmed wr w2 S sg sc) : Em w w2 g n cap D S m1 m2 d xs (stk2 (.slice (some ⟨sg, 0, none⟩) 0 sc)) a1 a2 := by
  obtain ⟨cur, hcur⟩ := h.gblk
  have hs := h.fS
  have hm := ht.1
  exact ⟨h.mods.then hm (fun b hb x => by omega), h.fD, h.fS, h.D.keep1 hm (h.D.ne_of_type h.S (by decide)), ht.2, ownsRow_keep h.row hm (fun b hb x => by cases hb; exact hcur.ne_of_type h.S (by decide) x), h.b1.keep1 hm (h.b1.ne_of_type h.S (by decide)), h.b2.keep1 hm (h.b2.ne_of_type h.S (by decide)), h.pos⟩
theorem S_blk (h : Em w wr g n cap D S m1 m2 d xs sa a1 a2) {Y : World} (hm : Mods (fun k => k = S) wr Y) {b T : Nat} {cs : Array Value} (hb : Blk wr b cs T) (hT : T ≠ 210) : Blk Y b cs T :=
  hb.keep1 hm (hb.ne_of_type h.S hT)
theorem S_row (h : Em w wr g n cap D S m1 m2 d xs sa a1 a2) {Y : World} (hm : Mods (fun k => k = S) wr Y) {e size k : Nat} {v : Value} {ys : List Value} (hr : wr.ownsRow 0 e size v k ys) (hT : 210 ≠ e) : Y.ownsRow 0 e size v k ys :=
  ownsRow_keep hr hm (fun b hb x => own_ne hr h.S hT (by rw [← x]; exact hb))
end
end Go.Proofs.YtdnlfdppjfjncaaGreatDoor

/- emph of a word between tildes among words: the walk. -/
namespace Go.Proofs.YtdnlfdppjfjncaaGreatDoor
open Go Go.RowKit Go.Proofs

/-- What stands at the begin of round i. -/
def St4 (w wr : World) (g cap m1 m2 T0 T2 T4 : Nat) (v0 v2 v4 : Value) (tt : ByteArray) (i : Nat) : Prop :=
  (i = 0 ∧ Em w wr g 5 cap w.heap.size (w.heap.size + 1) m1 m2 0 [.iface T0 v0, .iface 190 (.pointer (some ⟨m1, 0, none⟩)), .iface T2 v2, .iface 190 (.pointer (some ⟨m2, 0, none⟩)), .iface T4 v4] (stk2 sNil) #[.string tt, .bool true, .bool false, .int .i64 0, .int .i64 tt.size] #[.string tt, .bool false, .bool true, .int .i64 0, .int .i64 tt.size]) ∨ (i = 1 ∧ Em w wr g 5 cap w.heap.size (w.heap.size + 1) m1 m2 1 [.iface T0 v0, .iface 190 (.pointer (some ⟨m1, 0, none⟩)), .iface T2 v2, .iface 190 (.pointer (some ⟨m2, 0, none⟩)), .iface T4 v4] (stk2 sNil) #[.string tt, .bool true, .bool false, .int .i64 0, .int .i64 tt.size] #[.string tt, .bool false, .bool true, .int .i64 0, .int .i64 tt.size]) ∨
  ((i = 2 ∨ i = 3) ∧ ∃ sg sc, 1 ≤ sc ∧ w.heap.size ≤ sg ∧ Em w wr g 5 cap w.heap.size (w.heap.size + 1) m1 m2 i [.iface T0 v0, .iface 190 (.pointer (some ⟨m1, 0, none⟩)), .iface T2 v2, .iface 190 (.pointer (some ⟨m2, 0, none⟩)), .iface T4 v4] (stk2 (.slice (some ⟨sg, 0, none⟩) 1 sc)) #[.string tt, .bool true, .bool false, .int .i64 1, .int .i64 tt.size] #[.string tt, .bool false, .bool true, .int .i64 0, .int .i64 tt.size] ∧ wr.ownsRow 0 190 1 (.slice (some ⟨sg, 0, none⟩) 1 sc) 1 [.pointer (some ⟨m1, 0, none⟩)]) ∨
  (i = 4 ∧ ∃ sa db ig ic, w.heap.size ≤ ig ∧ Em w wr g 5 cap w.heap.size (w.heap.size + 1) m1 m2 2 [.iface T0 v0, .iface 217 (.pointer (some ⟨db, 0, none⟩)), .iface T2 v2, .iface 190 (.pointer (some ⟨m2, 0, none⟩)), .iface T4 v4] (sa) #[.string ⟨#[]⟩, .bool true, .bool false, .int .i64 1, .int .i64 tt.size] #[.string ⟨#[]⟩, .bool false, .bool true, .int .i64 0, .int .i64 tt.size] ∧ Blk wr db #[.string tt, .slice (some ⟨ig, 0, none⟩) 1 ic] 216 ∧ wr.ownsRow 0 132 1 (.slice (some ⟨ig, 0, none⟩) 1 ic) 1 [.iface T2 v2]) ∨
  (i = 5 ∧ ∃ sa db ig ic, w.heap.size ≤ ig ∧ Em w wr g 5 cap w.heap.size (w.heap.size + 1) m1 m2 3 [.iface T0 v0, .iface 217 (.pointer (some ⟨db, 0, none⟩)), .iface T4 v4, .iface 190 (.pointer (some ⟨m2, 0, none⟩)), .iface T4 v4] (sa) #[.string ⟨#[]⟩, .bool true, .bool false, .int .i64 1, .int .i64 tt.size] #[.string ⟨#[]⟩, .bool false, .bool true, .int .i64 0, .int .i64 tt.size] ∧ Blk wr db #[.string tt, .slice (some ⟨ig, 0, none⟩) 1 ic] 216 ∧ wr.ownsRow 0 132 1 (.slice (some ⟨ig, 0, none⟩) 1 ic) 1 [.iface T2 v2])

set_option maxRecDepth 100000 in
set_option maxHeartbeats 20000000 in
theorem emph_struck (q : Value) (g cap m1 m2 T0 T2 T4 : Nat) (v0 v2 v4 : Value) (tt : ByteArray) (w : World) (htt : tt = ⟨#[126]⟩ ∨ tt = ⟨#[126, 126]⟩)
    (hown : w.ownsRow 0 132 1 (.slice (some ⟨g, 0, none⟩) 5 cap) 5 [.iface T0 v0, .iface 190 (.pointer (some ⟨m1, 0, none⟩)), .iface T2 v2, .iface 190 (.pointer (some ⟨m2, 0, none⟩)), .iface T4 v4])
    (h0 : Quiet T0) (h2 : Quiet T2) (h4 : Quiet T4) (hM1 : Blk w m1 #[.string tt, .bool true, .bool false, .int .i64 0, .int .i64 tt.size] 192) (hM2 : Blk w m2 #[.string tt, .bool false, .bool true, .int .i64 0, .int .i64 tt.size] 192) (hm12 : m1 ≠ m2) (hgw : g < w.heap.size) :
    Calls Tryz.prog 91 #[q, .slice (some ⟨g, 0, none⟩) 0 cap, .slice (some ⟨g, 0, none⟩) 5 cap] w fun e w' => e = .returned (.slice (some ⟨g, 0, none⟩) 3 cap) ∧ St4 w w' g cap m1 m2 T0 T2 T4 v0 v2 v4 tt 5 := by
  have hcap : 5 ≤ cap := by
    rcases hown.2 with ⟨h, _⟩ | ⟨_, _, _, h, _, _, hc, _⟩
    · cases h
    · cases h; exact hc
  go_enter Tryz.func91, Tryz.ntmps91
  go_wp2_with fail
  go_step3
  go_wp2_with fail
  go_step3
  go_wp2_with fail
  generalize hW : (World.alloc _ _ : World) = W
  have hS : Same w W := by subst hW; exact ((Mods.refl _ w).alloc _).alloc _
  have hD : Blk W w.heap.size #[.slice (some ⟨g, 0, none⟩) 0 cap] 88 := by subst hW; exact (Blk.newAt _ _ rfl).alloc _
  have hK : Blk W (w.heap.size + 1) (stk2 sNil) 210 := by subst hW; exact Blk.newAt _ _ (by simp)
  clear hW
  have hE : Em w W g 5 cap w.heap.size (w.heap.size + 1) m1 m2 0 [.iface T0 v0, .iface 190 (.pointer (some ⟨m1, 0, none⟩)), .iface T2 v2, .iface 190 (.pointer (some ⟨m2, 0, none⟩)), .iface T4 v4] (stk2 sNil) #[.string tt, .bool true, .bool false, .int .i64 0, .int .i64 tt.size] #[.string tt, .bool false, .bool true, .int .i64 0, .int .i64 tt.size] := ⟨hS.mono (fun _ _ x => absurd x (fun x => x)), Nat.le_refl _, Nat.le_succ _, hD, hK, ownsRow_keep hown hS (fun _ _ x => x), hS.blk hM1, hS.blk hM2, by omega⟩
  clear hD hK hS hown hM1 hM2
  refine wp_loop_ghost_k (fun m a wr => ∃ (i : Nat) (v : Nat → Value), (m = 5 - i ∧ i ≤ 5 ∧ St4 w wr g cap m1 m2 T0 T2 T4 v0 v2 v4 tt i) ∧
    a = ⟨#[q, .slice (some ⟨g, 0, none⟩) 0 cap, .slice (some ⟨g, 0, none⟩) 5 cap, undef, .pointer (some ⟨w.heap.size, 0, none⟩), undef, .slice none 0 0, .pointer (some ⟨w.heap.size + 1, 0, none⟩), .func (.func 129) #[] #[], .func (.func 130) #[] #[.pointer (some ⟨w.heap.size + 1, 0, none⟩), .pointer (some ⟨w.heap.size, 0, none⟩)], .int .i64 i, v 11, v 12, v 13, v 14, v 15, v 16, v 17, v 18, v 19, v 20, v 21, .func (.func 130) #[] #[.pointer (some ⟨w.heap.size + 1, 0, none⟩), .pointer (some ⟨w.heap.size, 0, none⟩)], v 23, v 24, v 25, v 26, v 27, v 28, v 29, v 30, v 31, v 32, v 33, v 34, v 35, v 36, v 37, v 38, v 39, v 40, v 41, v 42, v 43, v 44, v 45, v 46, v 47, v 48, v 49, v 50, v 51, v 52, v 53, v 54, v 55, v 56, v 57, v 58, v 59, v 60, v 61, v 62, v 63, v 64, v 65, v 66, v 67, v 68, v 69, v 70, v 71, v 72, v 73, v 74, v 75, v 76, v 77, v 78, v 79, v 80, v 81, v 82, v 83, v 84, v 85, v 86, v 87, v 88, v 89, v 90, v 91, v 92, v 93, v 94, v 95, v 96, v 97, v 98, v 99, v 100, v 101, v 102, v 103, v 104, v 105, v 106, v 107, v 108, v 109, v 110, v 111, v 112, v 113, v 114, v 115, v 116, v 117, v 118, v 119, v 120, v 121, v 122, v 123, v 124, v 125, v 126, v 127, v 128, v 129, v 130, v 131, v 132, v 133, v 134, v 135, v 136, v 137, v 138, v 139, v 140, v 141, v 142, v 143, v 144, v 145, v 146, v 147, v 148, v 149, v 150, v 151, v 152, v 153, v 154, v 155, v 156, v 157, v 158, v 159, v 160, v 161, v 162, v 163, v 164, v 165, v 166, v 167, v 168, v 169, v 170, v 171, v 172, v 173, v 174, v 175, v 176, v 177, v 178, v 179, v 180, v 181, v 182, v 183, v 184, v 185, v 186, v 187, v 188, v 189, v 190, v 191, v 192, v 193, v 194, v 195, v 196, v 197, v 198, v 199, v 200, v 201, v 202, v 203, v 204, v 205, v 206, v 207, v 208, v 209, v 210, v 211, v 212, v 213, v 214, v 215, v 216, v 217, v 218, v 219, v 220, v 221, v 222, v 223, v 224, v 225, v 226, v 227, v 228, v 229, v 230, v 231, v 232, v 233, v 234, v 235, v 236, v 237, v 238, v 239, v 240, v 241, v 242, v 243, v 244, v 245, v 246, v 247, v 248, v 249, v 250, v 251, v 252, v 253, v 254, v 255, v 256, v 257, v 258, v 259, v 260, v 261, v 262, v 263, v 264, v 265, v 266, v 267, v 268, v 269, v 270, v 271, v 272, v 273, v 274, v 275, v 276, v 277, v 278, v 279, v 280, v 281, v 282, v 283, v 284, v 285, v 286, v 287, v 288, v 289, v 290, v 291, v 292, v 293, v 294, v 295, v 296, v 297, v 298, v 299, v 300, v 301, v 302, v 303, v 304, v 305, v 306, v 307, v 308, v 309, v 310, v 311, v 312, v 313, v 314, v 315, v 316, v 317, v 318, v 319, v 320, v 321, v 322, v 323, v 324, v 325, v 326, v 327, v 328, v 329, v 330, v 331, v 332, v 333, v 334, v 335, v 336, v 337, v 338, v 339, v 340, v 341, v 342, v 343, v 344, v 345, v 346, v 347, v 348, v 349, v 350, v 351, v 352, v 353, v 354, v 355, v 356, v 357, v 358, v 359, v 360, v 361, v 362, v 363, v 364, v 365, v 366, v 367, v 368, v 369, v 370, v 371, v 372, v 373, v 374, v 375, v 376, v 377, v 378, v 379, v 380, v 381, v 382, v 383, v 384, v 385, v 386, v 387, v 388, v 389, v 390, v 391, v 392, v 393, v 394, v 395, v 396, v 397, v 398, v 399, v 400, v 401, v 402, v 403, v 404, v 405, v 406, v 407, v 408, v 409, v 410, v 411, v 412, v 413, v 414, v 415, v 416, v 417, v 418, v 419, v 420, v 421, v 422, v 423, v 424, v 425, v 426, v 427, v 428, v 429, v 430, v 431, v 432, v 433, v 434, v 435], []⟩) 5 ⟨0, fun _ => undef, ⟨rfl, Nat.zero_le _, Or.inl ⟨rfl, hE⟩⟩, rfl⟩ ?_
  clear hE
  intro gk a wr hinv
  obtain ⟨i, v, ⟨rfl, hi, hst⟩, rfl⟩ := hinv
  intro J K hJ hK
  rcases hst with ⟨rfl, hE⟩ | ⟨rfl, hE⟩ | ⟨hi23, sg, sc, hsc, hsg, hE, hsr⟩ | ⟨rfl, sa, db, ig, ic, hdi, hE, hdb, hig⟩ | ⟨rfl, sa, db, ig, ic, hdi, hE, hdb, hig⟩
  · skip
    obtain ⟨k0, k1, k2⟩ := hE.cells
    have s0 : wr.cell? ⟨g, 0, none⟩ = some (.iface T0 v0) := hE.src 0 _ rfl
    have q1 := h0.open_
    have q2 := h0.emph
    have hSd : ∀ o, Same wr ((wr.alloc o).drew) := fun o => ((Mods.refl (fun _ => False) wr).alloc o).drew
    go_wp2_with fail
    go_region_law (refine st_room_inl rfl (.tmp 55) (.tmp 60) rfl g 0 5 cap _ (ownsRow_keep hE.row (hSd _) (fun _ _ x => x)) (by omega) (.iface T0 v0) rfl wr.heap.size 1 rfl rfl ((Blk.drew (Blk.newAt _ _ rfl)).cell 0) ?_; intro wB hmB hrB; have hEB := hE.app (hSd _) hmB hrB; obtain ⟨k0', k1', k2'⟩ := hEB.cells)
    all_goals
      go_wp2_with fail
      refine Handed.intro (5 - (0 + 1)) (by omega) (hJ _ _ _ ⟨0 + 1, (fun d => cond (Nat.ble 11 d && Nat.ble d 61) (cond (Nat.ble d 42) (cond (Nat.ble d 26) (List.getD [_, _, _, _, _, _, _, _, _, _, _, undef, _, _, _, _] (d - 11) undef) (List.getD [_, _, _, _, _, _, _, _, _, _, _, _, _, _, _, _] (d - 27) undef)) (cond (Nat.ble d 58) (List.getD [_, _, _, _, _, _, _, _, _, _, _, _, _, _, _, _] (d - 43) undef) (List.getD [_, _, _] (d - 59) undef))) (v d)), ⟨rfl, by omega, Or.inr (Or.inl ⟨rfl, hEB.setD 1⟩)⟩, rfl⟩)
  · obtain ⟨k0, k1, k2⟩ := hE.cells
    have s0 : wr.cell? ⟨g, 1, none⟩ = some (.iface 190 (.pointer (some ⟨m1, 0, none⟩))) := hE.src 1 _ rfl
    have q1 := as_open_mark
    have q2 := as_mark_yes
    have x0 := (hE.m1c 0).1
    have x1 := (hE.m1c 1).1
    have x2 := (hE.m1c 2).1
    obtain ⟨x3, x4, x5⟩ := hE.m1c 3
    have HE := Lib.hid hE
    clear hE
    rcases htt with rfl | rfl
    all_goals
      go_wp2_with fail
      refine (stackOf_n 126 2 wr (Or.inl ⟨rfl, rfl⟩)).mono ?_
      rintro e w' ⟨rfl, rfl⟩
      go_upto_region 59 with (fail)
      have hE1 := HE.out.setI hm12 3 (.int .i64 1)
      generalize (World.setCell wr _ _ : World) = w1 at hE1 ⊢
      clear k0 k1 k2 s0 q1 q2 x0 x1 x2 x3 x4 x5 HE
      obtain ⟨k0, k1, k2⟩ := hE1.cells
      go_wp2_with (at_builtin; refine wl_room_inl rfl (.tmp 415) (.tmp 418) rfl g 1 5 cap _ (ownsRow_keep hE1.row ((Mods.refl (fun _ => False) w1).alloc _) (fun _ _ x => x)) (by omega) (.iface 190 (.pointer (some ⟨m1, 0, none⟩))) rfl w1.heap.size 1 rfl rfl ((Blk.newAt _ _ rfl).cell 0) ?_)
      intro wB hmB hrB
      have hEB := hE1.app ((Mods.refl (fun _ => False) w1).alloc _) hmB hrB
      clear k0 k1 k2 hmB hrB hE1
      obtain ⟨k0, k1, k2⟩ := hEB.cells
      go_upto_region 60 with (fail)
      have hE2 := hEB.setD 2
      generalize (World.setCell wB _ _ : World) = w2 at hE2 ⊢
      clear k0 k1 k2 hEB
      obtain ⟨y0, y1, y2⟩ := hE2.sc 2
      have y0' : w2.cell? ⟨w.heap.size + 1, 2, none⟩ = some (.slice none 0 0) := y0
      clear y0
      go_wp2_with (at_builtin; refine ap_mark rfl (.tmp 423) (.tmp 425) rfl (.slice none 0 0) 0 [] rfl ⟨rfl, Or.inl ⟨rfl, rfl⟩⟩ w2.heap.size 1 (some ⟨m1, 0, none⟩) rfl ((Blk.newAt _ _ rfl).cell 0) (by omega) ?_)
      intro sg sc w3 hrow3 hgrow hloc
      have hS3 : Same w2 w3 := ((Mods.refl (fun _ => False) w2).alloc _).trans ((grown_mods hgrow).mono (fun _ _ h => by cases h))
      have hE3 := hE2.same hS3
      have hz := hE2.mods.size
      have hsg9 : w.heap.size ≤ sg := by
        rcases hloc with h | h
        · cases h
        · have h9 : sg = w2.heap.size + 1 := by simpa using h
          omega
      clear y0' y1 y2 hgrow hloc hS3 hE2
      obtain ⟨_, y1, y2⟩ := hE3.sc 2
      have hsc1 : 1 ≤ sc := by
        rcases hrow3.2 with ⟨h, _⟩ | ⟨_, _, _, h, _, _, hc, _⟩
        · cases h
        · cases h; exact hc
      go_wp2_with fail
      have hE4 := hE3.setS 2 (.slice (some ⟨sg, 0, none⟩) (0 + 1) sc)
      have hr4 := row_set3 hE3 hrow3 2 (.slice (some ⟨sg, 0, none⟩) (0 + 1) sc)
      refine Handed.intro (5 - (1 + 1)) (by omega) (hJ _ _ _ ⟨1 + 1, (fun d => cond (Nat.ble 11 d && Nat.ble d 434) (cond (Nat.ble d 218) (cond (Nat.ble d 106) (cond (Nat.ble d 58) (cond (Nat.ble d 26) (List.getD [_, _, _, _, _, _, _, _, _, _, _, undef, _, _, _, _] (d - 11) undef) (cond (Nat.ble d 42) (List.getD [_, _, _, _, _, _, _, _, _, _, _, _, _, _, _, _] (d - 27) undef) (List.getD [_, _, _, _, _, _, _, _, _, _, _, _, _, _, _, _] (d - 43) undef))) (cond (Nat.ble d 74) (List.getD [_, _, _, _, _, _, _, _, _, _, _, _, _, _, _, _] (d - 59) undef) (cond (Nat.ble d 90) (List.getD [_, _, _, _, _, _, _, _, _, _, _, _, _, _, _, _] (d - 75) undef) (List.getD [_, _, _, _, _, _, _, _, _, _, _, _, _, _, _, _] (d - 91) undef)))) (cond (Nat.ble d 154) (cond (Nat.ble d 122) (List.getD [_, _, _, _, _, _, _, _, _, _, _, _, _, _, _, _] (d - 107) undef) (cond (Nat.ble d 138) (List.getD [_, _, _, _, _, _, _, _, _, _, _, _, _, _, _, _] (d - 123) undef) (List.getD [_, _, _, _, _, _, _, _, _, _, _, _, _, _, _, _] (d - 139) undef))) (cond (Nat.ble d 186) (cond (Nat.ble d 170) (List.getD [_, _, _, _, _, _, _, _, _, _, _, _, _, _, _, _] (d - 155) undef) (List.getD [_, _, _, _, _, _, _, _, _, _, _, _, _, _, _, _] (d - 171) undef)) (cond (Nat.ble d 202) (List.getD [_, _, _, _, _, _, _, _, _, _, _, _, _, _, _, _] (d - 187) undef) (List.getD [_, _, _, _, _, _, _, _, _, _, _, _, _, _, _, _] (d - 203) undef))))) (cond (Nat.ble d 330) (cond (Nat.ble d 266) (cond (Nat.ble d 234) (List.getD [_, _, _, _, _, _, _, _, _, _, _, _, _, _, _, _] (d - 219) undef) (cond (Nat.ble d 250) (List.getD [_, _, _, _, _, _, _, _, _, _, _, _, _, _, _, _] (d - 235) undef) (List.getD [_, _, _, _, _, _, _, _, _, _, _, _, _, _, _, _] (d - 251) undef))) (cond (Nat.ble d 298) (cond (Nat.ble d 282) (List.getD [_, _, _, _, _, _, _, _, _, _, _, _, _, _, _, _] (d - 267) undef) (List.getD [_, _, _, _, _, _, _, _, _, _, _, _, _, _, _, _] (d - 283) undef)) (cond (Nat.ble d 314) (List.getD [_, _, _, _, _, _, _, _, _, _, _, _, _, _, _, _] (d - 299) undef) (List.getD [_, _, _, _, _, _, _, _, _, _, _, _, _, _, _, _] (d - 315) undef)))) (cond (Nat.ble d 378) (cond (Nat.ble d 346) (List.getD [_, _, _, _, _, _, _, _, _, _, _, _, _, _, _, _] (d - 331) undef) (cond (Nat.ble d 362) (List.getD [_, _, _, _, _, _, _, _, _, _, _, _, _, _, _, _] (d - 347) undef) (List.getD [_, _, _, _, _, _, _, _, _, _, _, _, _, _, _, _] (d - 363) undef))) (cond (Nat.ble d 410) (cond (Nat.ble d 394) (List.getD [_, _, _, _, _, _, _, _, _, _, _, _, _, _, _, _] (d - 379) undef) (List.getD [_, _, _, _, _, _, _, _, _, _, _, _, _, _, _, _] (d - 395) undef)) (cond (Nat.ble d 426) (List.getD [_, _, _, _, _, _, _, _, _, _, _, _, _, _, _, _] (d - 411) undef) (List.getD [_, _, _, _, _, _, _, _] (d - 427) undef)))))) (v d)), ⟨rfl, by omega, Or.inr (Or.inr (Or.inl ⟨Or.inl rfl, sg, sc, hsc1, hsg9, hE4, hr4⟩))⟩, rfl⟩)
  · rcases hi23 with rfl | rfl
    · skip
      obtain ⟨k0, k1, k2⟩ := hE.cells
      have s0 : wr.cell? ⟨g, 2, none⟩ = some (.iface T2 v2) := hE.src 2 _ rfl
      have q1 := h2.open_
      have q2 := h2.emph
      have hSd : ∀ o, Same wr ((wr.alloc o).drew) := fun o => ((Mods.refl (fun _ => False) wr).alloc o).drew
      go_wp2_with fail
      go_region_law (refine st_room_inl rfl (.tmp 55) (.tmp 60) rfl g 2 5 cap _ (ownsRow_keep hE.row (hSd _) (fun _ _ x => x)) (by omega) (.iface T2 v2) rfl wr.heap.size 1 rfl rfl ((Blk.drew (Blk.newAt _ _ rfl)).cell 0) ?_; intro wB hmB hrB; have hEB := hE.app (hSd _) hmB hrB; obtain ⟨k0', k1', k2'⟩ := hEB.cells)
      all_goals
        go_wp2_with fail
        refine Handed.intro (5 - (2 + 1)) (by omega) (hJ _ _ _ ⟨2 + 1, (fun d => cond (Nat.ble 11 d && Nat.ble d 61) (cond (Nat.ble d 42) (cond (Nat.ble d 26) (List.getD [_, _, _, _, _, _, _, _, _, _, _, undef, _, _, _, _] (d - 11) undef) (List.getD [_, _, _, _, _, _, _, _, _, _, _, _, _, _, _, _] (d - 27) undef)) (cond (Nat.ble d 58) (List.getD [_, _, _, _, _, _, _, _, _, _, _, _, _, _, _, _] (d - 43) undef) (List.getD [_, _, _] (d - 59) undef))) (v d)), ⟨rfl, by omega, Or.inr (Or.inr (Or.inl ⟨Or.inr rfl, sg, sc, hsc, hsg, hEB.setD 3, row_setD hEB (row_app hE hsr (hSd _) hmB) _⟩))⟩, rfl⟩)
    · obtain ⟨k0, k1, k2⟩ := hE.cells
      have s0 : wr.cell? ⟨g, 3, none⟩ = some (.iface 190 (.pointer (some ⟨m2, 0, none⟩))) := hE.src 3 _ rfl
      have s2 : wr.cell? ⟨g, 2, none⟩ = some (.iface T2 v2) := hE.src 2 _ rfl
      have q1 := as_open_mark
      have q2 := as_mark_yes
      have x0 := (hE.m2c 0).1
      have x1 := (hE.m2c 1).1
      have x2 := (hE.m2c 2).1
      have z0 := (hE.m1c 0).1
      have z1 := (hE.m1c 1).1
      have z2 := (hE.m1c 2).1
      have z3 := (hE.m1c 3).1
      have y2 : wr.cell? ⟨w.heap.size + 1, 2, none⟩ = some (.slice (some ⟨sg, 0, none⟩) 1 sc) := (hE.sc 2).1
      obtain ⟨_, _, he, _, _, hrc⟩ := ownsRow_form hsr (by omega)
      cases he
      have y3 : wr.cell? ⟨sg, 0, none⟩ = some (.pointer (some ⟨m1, 0, none⟩)) := hrc 0 _ rfl
      have HE := Lib.hid hE
      clear hE hrc
      have u0 : ∀ h : 0 < tt.size, ((tt[0]'h).toNat : Int) = 126 := by rcases htt with rfl | rfl <;> exact fun _ => rfl
      rcases htt with rfl | rfl
      · skip
        go_wp2_with fail
        go_step3
        go_wp2_with fail
        refine (stackOf_n 126 2 wr (Or.inl ⟨rfl, rfl⟩)).mono ?_
        rintro e w' ⟨rfl, rfl⟩
        go_wp2_with fail
        go_step3
        go_wp2_with fail
        refine wp_loop_rounds 2 ?_
        rw [rounds_succ]
        go_wp2_with fail
        refine wp_loop_rounds 1 ?_
        rw [rounds_succ]
        go_wp2_with fail
        go_quiet (fail)
        go_wp2_with fail
        go_quiet (fail)
        go_wp2_with fail
        generalize hX : (World.drewN _ _ : World) = X
        have hSX : Same wr X := by subst hX; exact (Mods.refl _ wr).drewN _
        clear hX k0 k1 k2 s0 s2 q1 q2 x0 x1 x2 z0 z1 z2 z3 y2 y3
        have hE1 := HE.out.same hSX
        have hsr1 := ownsRow_keep hsr hSX (fun _ _ x => x)
        clear HE hSX
        obtain ⟨k0, k1, k2⟩ := hE1.cells
        have s2 : X.cell? ⟨g, 2, none⟩ = some (.iface T2 v2) := hE1.src 2 _ rfl
        obtain ⟨x0, xf, xl⟩ := hE1.m2c 0
        obtain ⟨z0, zf, zl⟩ := hE1.m1c 0
        have z3 := (hE1.m1c 3).1
        have c2 : (2 : Int) ≤ cap := by omega
        have c3 : (3 : Int) ≤ cap := by omega
        have c4 : ¬ (cap : Int) = 2 := by omega
        have c5 : (0 : Int) ≤ cap := by omega
        have c6 : ¬ cap = 2 := by omega
        have c7 : IntKind.i64.wrap 2 = 2 := by decide
        go_region_held3 (fun w' => w'.cell? ⟨w.heap.size, 0, none⟩ = some (.slice (some ⟨g, 0, none⟩) 3 cap) ∧ w'.cell? ⟨m2, 0, none⟩ = some (.string ⟨#[126]⟩) ∧ w'.cell? ⟨m1, 3, none⟩ = some (.int .i64 1)) (first | (refine ⟨?_, ?_, ?_⟩ <;> assumption) | go_keep)
          ((refine st_inl_at (by rfl) (.const (.slice none 0 0)) (.tmp 291) (by rfl) (.slice none 0 0) 0 [] (by rfl) ⟨rfl, Or.inl ⟨rfl, rfl⟩⟩ g 2 (cap - 2) T2 v2 (by rfl) (by exact s2) (by omega) ?_; intro ig ic w1 hrow hgrow hloc; have hE2 := hE1.same (((Mods.refl (fun _ => False) X).drew).trans ((grown_mods hgrow).mono (fun _ _ h => by cases h))); have n0 : w1.cell? ⟨w.heap.size, 0, none⟩ = some (.slice (some ⟨g, 0, none⟩) 3 cap) := hE2.cells.1; have n1 : w1.cell? ⟨m2, 0, none⟩ = some (.string ⟨#[126]⟩) := (hE2.m2c 0).1; have n3 : w1.cell? ⟨m1, 3, none⟩ = some (.int .i64 1) := (hE2.m1c 3).1))
        clear k0 k1 k2 s2 x0 xf xl z0 zf zl z3 n0 n1 n3
        generalize hX2 : (World.alloc w1 _ : World) = X2
        have hS2 : Same w1 X2 := by subst hX2; exact (Mods.refl (fun _ => False) w1).alloc _
        have hDb : Blk X2 w1.heap.size #[.string ⟨#[126]⟩, .slice (some ⟨ig, 0, none⟩) 1 ic] 216 := by subst hX2; exact Blk.newAt _ _ rfl
        clear hX2
        have hE3 := hE2.same hS2
        have hIg : X2.ownsRow 0 132 1 (.slice (some ⟨ig, 0, none⟩) 1 ic) 1 [.iface T2 v2] := ownsRow_keep hrow hS2 (fun _ _ x => x)
        have hsr3 := ownsRow_keep hsr1 ((((Mods.refl (fun _ => False) X).drew).trans ((grown_mods hgrow).mono (fun _ _ h => by cases h))).trans hS2) (fun _ _ x => x)
        have hig9 : w.heap.size ≤ ig := by
          rcases hloc with h | h
          · cases h
          · rw [h]
            exact hE1.mods.size
        clear hE1 hE2 hS2 hrow hgrow hloc hsr1
        obtain ⟨k0, k1, k2⟩ := hE3.cells
        obtain ⟨x0, xf, xl⟩ := hE3.m2c 0
        obtain ⟨z0, zf, zl⟩ := hE3.m1c 0
        have z3 := (hE3.m1c 3).1
        have HE3 := Lib.hid hE3
        have HDb := Lib.hid hDb
        have HIg := Lib.hid hIg
        have HSr := Lib.hid hsr3
        clear hE3 hDb hIg hsr3
        go_wp2_with fail
        go_region
        go_wp2_with fail
        clear k0 k1 k2 x0 xf xl z0 zf zl z3
        have hm4 := two_mods X2 m1 m2 (.string ByteArray.empty) (.string ByteArray.empty)
        have hE4 := (HE3.out.setI hm12 0 (.string ByteArray.empty)).setJ hm12 0 (.string ByteArray.empty)
        generalize (World.setCell (World.setCell X2 _ _) _ _ : World) = Y at hm4 hE4 ⊢
        have hDb4 := two_blk HE3.out hm4 HDb.out (by decide)
        have hIg4 := two_row HE3.out hm4 HIg.out (by decide)
        have hSr4 := two_row HE3.out hm4 HSr.out (by decide)
        clear hm4 HE3 HDb HIg HSr
        obtain ⟨k0, k1, k2⟩ := hE4.cells
        have z3 := (hE4.m1c 3).1
        have HE4 := Lib.hid hE4
        have HDb := Lib.hid hDb4
        have HIg := Lib.hid hIg4
        have HSr := Lib.hid hSr4
        clear hE4 hDb4 hIg4 hSr4
        go_region
        go_wp2_with fail
        have hDb5 := db_setD HE4.out HDb.out (.slice (some ⟨g, 0, none⟩) 1 cap)
        have hIg5 := ig_setD HE4.out HIg.out (.slice (some ⟨g, 0, none⟩) 1 cap)
        have hSr5 := row_setD HE4.out HSr.out (.slice (some ⟨g, 0, none⟩) 1 cap)
        have hE5 := HE4.out.setD 1
        clear k0 k1 k2 z3 HE4 HDb HIg HSr
        generalize (World.setCell Y _ _ : World) = Z at hDb5 hIg5 hSr5 hE5 ⊢
        have hSZ : Same Z Z.drew.drew := ((Mods.refl (fun _ => False) Z).drew).drew
        generalize (World.drew (World.drew Z) : World) = V at hSZ ⊢
        have hE6 := hE5.same hSZ
        have hDb6 := hSZ.blk hDb5
        have hIg6 := ownsRow_keep hIg5 hSZ (fun _ _ x => x)
        have hSr6 := ownsRow_keep hSr5 hSZ (fun _ _ x => x)
        clear hDb5 hIg5 hSr5 hE5 hSZ
        refine (trim_tilde _ _ m1 sg sc 1 1 (some ⟨g, 0, none⟩) cap _ V hE6.S hE6.D hSr6 hE6.b1 rfl (Nat.le_refl _) hsc).mono ?_
        rintro e V2 ⟨rfl, hT⟩
        have hE7 := hE6.trimmed hT
        have hDb7 := S_blk hE6 hT.1 hDb6 (by decide)
        have hIg7 := S_row hE6 hT.1 hIg6 (by decide)
        clear hE6 hDb6 hIg6 hSr6 hT
        have HE7 := Lib.hid hE7
        have HDb := Lib.hid hDb7
        have HIg := Lib.hid hIg7
        obtain ⟨k0, k1, k2⟩ := hE7.cells
        clear hE7 hDb7 hIg7
        go_wp2_with (at_builtin; refine wl_room_inl rfl (.tmp 346) (.tmp 349) rfl g 1 5 cap _ (ownsRow_keep HE7.out.row ((Mods.refl (fun _ => False) V2).alloc _) (fun _ _ x => x)) (by omega) (.iface 217 (.pointer (some ⟨w1.heap.size, 0, none⟩))) rfl V2.heap.size 1 rfl rfl ((Blk.newAt _ _ rfl).cell 0) ?_)
        intro wB hmB hrB
        have hEB := HE7.out.app ((Mods.refl (fun _ => False) V2).alloc _) hmB hrB
        have hDbB := db_app HE7.out HDb.out ((Mods.refl (fun _ => False) V2).alloc _) hmB
        have hIgB := ig_app HE7.out HIg.out (by omega) ((Mods.refl (fun _ => False) V2).alloc _) hmB
        clear k0 k1 k2 hmB hrB HE7 HDb HIg
        obtain ⟨k0, k1, k2⟩ := hEB.cells
        have HEB := Lib.hid hEB
        have HDb := Lib.hid hDbB
        have HIg := Lib.hid hIgB
        clear hEB hDbB hIgB
        go_wp2_with fail
        have hEU := HEB.out.setD 2
        have hDbU := db_setD HEB.out HDb.out (.slice (some ⟨g, 0, none⟩) 2 cap)
        have hIgU := ig_setD HEB.out HIg.out (.slice (some ⟨g, 0, none⟩) 2 cap)
        clear k0 k1 k2 HEB HDb HIg
        generalize (World.setCell wB _ _ : World) = U at hEU hDbU hIgU ⊢
        have x0 := (hEU.m2c 0).1
        have HEU := Lib.hid hEU
        clear hEU
        rw [rounds_succ]
        go_wp2_with fail
        rw [Exit.noGoto_normal]
        go_wp2_with fail
        refine Handed.intro (5 - (3 + 1)) (by omega) (hJ _ _ _ ⟨3 + 1, (fun d => cond (Nat.ble 11 d && Nat.ble d 434) (cond (Nat.ble d 218) (cond (Nat.ble d 106) (cond (Nat.ble d 58) (cond (Nat.ble d 26) (List.getD [_, _, _, _, _, _, _, _, _, _, _, undef, _, _, _, _] (d - 11) undef) (cond (Nat.ble d 42) (List.getD [_, _, _, _, _, _, _, _, _, _, _, _, _, _, _, _] (d - 27) undef) (List.getD [_, _, _, _, _, _, _, _, _, _, _, _, _, _, _, _] (d - 43) undef))) (cond (Nat.ble d 74) (List.getD [_, _, _, _, _, _, _, _, _, _, _, _, _, _, _, _] (d - 59) undef) (cond (Nat.ble d 90) (List.getD [_, _, _, _, _, _, _, _, _, _, _, _, _, _, _, _] (d - 75) undef) (List.getD [_, _, _, _, _, _, _, _, _, _, _, _, _, _, _, _] (d - 91) undef)))) (cond (Nat.ble d 154) (cond (Nat.ble d 122) (List.getD [_, _, _, _, _, _, _, _, _, _, _, _, _, _, _, _] (d - 107) undef) (cond (Nat.ble d 138) (List.getD [_, _, _, _, _, _, _, _, _, _, _, _, _, _, _, _] (d - 123) undef) (List.getD [_, _, _, _, _, _, _, _, _, _, _, _, _, _, _, _] (d - 139) undef))) (cond (Nat.ble d 186) (cond (Nat.ble d 170) (List.getD [_, _, _, _, _, _, _, _, _, _, _, _, _, _, _, _] (d - 155) undef) (List.getD [_, _, _, _, _, _, _, _, _, _, _, _, _, _, _, _] (d - 171) undef)) (cond (Nat.ble d 202) (List.getD [_, _, _, _, _, _, _, _, _, _, _, _, _, _, _, _] (d - 187) undef) (List.getD [_, _, _, _, _, _, _, _, _, _, _, _, _, _, _, _] (d - 203) undef))))) (cond (Nat.ble d 330) (cond (Nat.ble d 266) (cond (Nat.ble d 234) (List.getD [_, _, _, _, _, _, _, _, _, _, _, _, _, _, _, _] (d - 219) undef) (cond (Nat.ble d 250) (List.getD [_, _, _, _, _, _, _, _, _, _, _, _, _, _, _, _] (d - 235) undef) (List.getD [_, _, _, _, _, _, _, _, _, _, _, _, _, _, _, _] (d - 251) undef))) (cond (Nat.ble d 298) (cond (Nat.ble d 282) (List.getD [_, _, _, _, _, _, _, _, _, _, _, _, _, _, _, _] (d - 267) undef) (List.getD [_, _, _, _, _, _, _, _, _, _, _, _, _, _, _, _] (d - 283) undef)) (cond (Nat.ble d 314) (List.getD [_, _, _, _, _, _, _, _, _, _, _, _, _, _, _, _] (d - 299) undef) (List.getD [_, _, _, _, _, _, _, _, _, _, _, _, _, _, _, _] (d - 315) undef)))) (cond (Nat.ble d 378) (cond (Nat.ble d 346) (List.getD [_, _, _, _, _, _, _, _, _, _, _, _, _, _, _, _] (d - 331) undef) (cond (Nat.ble d 362) (List.getD [_, _, _, _, _, _, _, _, _, _, _, _, _, _, _, _] (d - 347) undef) (List.getD [_, _, _, _, _, _, _, _, _, _, _, _, _, _, _, _] (d - 363) undef))) (cond (Nat.ble d 410) (cond (Nat.ble d 394) (List.getD [_, _, _, _, _, _, _, _, _, _, _, _, _, _, _, _] (d - 379) undef) (List.getD [_, _, _, _, _, _, _, _, _, _, _, _, _, _, _, _] (d - 395) undef)) (cond (Nat.ble d 426) (List.getD [_, _, _, _, _, _, _, _, _, _, _, _, _, _, _, _] (d - 411) undef) (List.getD [_, _, _, _, _, _, _, _] (d - 427) undef)))))) (v d)), ⟨rfl, by omega, Or.inr (Or.inr (Or.inr (Or.inl ⟨rfl, _, w1.heap.size, ig, ic, hig9, HEU.out, hDbU, hIgU⟩)))⟩, rfl⟩)
      · skip
        go_wp2_with fail
        go_step3
        go_wp2_with fail
        refine (stackOf_n 126 2 wr (Or.inl ⟨rfl, rfl⟩)).mono ?_
        rintro e w' ⟨rfl, rfl⟩
        go_wp2_with fail
        go_step3
        go_wp2_with fail
        refine wp_loop_rounds 2 ?_
        rw [rounds_succ]
        go_wp2_with fail
        refine wp_loop_rounds 1 ?_
        rw [rounds_succ]
        go_wp2_with fail
        go_quiet (fail)
        go_wp2_with fail
        go_quiet (fail)
        go_wp2_with fail
        generalize hX : (World.drewN _ _ : World) = X
        have hSX : Same wr X := by subst hX; exact (Mods.refl _ wr).drewN _
        clear hX k0 k1 k2 s0 s2 q1 q2 x0 x1 x2 z0 z1 z2 z3 y2 y3
        have hE1 := HE.out.same hSX
        have hsr1 := ownsRow_keep hsr hSX (fun _ _ x => x)
        clear HE hSX
        obtain ⟨k0, k1, k2⟩ := hE1.cells
        have s2 : X.cell? ⟨g, 2, none⟩ = some (.iface T2 v2) := hE1.src 2 _ rfl
        obtain ⟨x0, xf, xl⟩ := hE1.m2c 0
        obtain ⟨z0, zf, zl⟩ := hE1.m1c 0
        have z3 := (hE1.m1c 3).1
        have c2 : (2 : Int) ≤ cap := by omega
        have c3 : (3 : Int) ≤ cap := by omega
        have c4 : ¬ (cap : Int) = 2 := by omega
        have c5 : (0 : Int) ≤ cap := by omega
        have c6 : ¬ cap = 2 := by omega
        have c7 : IntKind.i64.wrap 2 = 2 := by decide
        go_region_held3 (fun w' => w'.cell? ⟨w.heap.size, 0, none⟩ = some (.slice (some ⟨g, 0, none⟩) 3 cap) ∧ w'.cell? ⟨m2, 0, none⟩ = some (.string ⟨#[126, 126]⟩) ∧ w'.cell? ⟨m1, 3, none⟩ = some (.int .i64 1)) (first | (refine ⟨?_, ?_, ?_⟩ <;> assumption) | go_keep)
          ((refine st_inl_at (by rfl) (.const (.slice none 0 0)) (.tmp 291) (by rfl) (.slice none 0 0) 0 [] (by rfl) ⟨rfl, Or.inl ⟨rfl, rfl⟩⟩ g 2 (cap - 2) T2 v2 (by rfl) (by exact s2) (by omega) ?_; intro ig ic w1 hrow hgrow hloc; have hE2 := hE1.same (((Mods.refl (fun _ => False) X).drew).trans ((grown_mods hgrow).mono (fun _ _ h => by cases h))); have n0 : w1.cell? ⟨w.heap.size, 0, none⟩ = some (.slice (some ⟨g, 0, none⟩) 3 cap) := hE2.cells.1; have n1 : w1.cell? ⟨m2, 0, none⟩ = some (.string ⟨#[126, 126]⟩) := (hE2.m2c 0).1; have n3 : w1.cell? ⟨m1, 3, none⟩ = some (.int .i64 1) := (hE2.m1c 3).1))
        clear k0 k1 k2 s2 x0 xf xl z0 zf zl z3 n0 n1 n3
        generalize hX2 : (World.alloc w1 _ : World) = X2
        have hS2 : Same w1 X2 := by subst hX2; exact (Mods.refl (fun _ => False) w1).alloc _
        have hDb : Blk X2 w1.heap.size #[.string ⟨#[126, 126]⟩, .slice (some ⟨ig, 0, none⟩) 1 ic] 216 := by subst hX2; exact Blk.newAt _ _ rfl
        clear hX2
        have hE3 := hE2.same hS2
        have hIg : X2.ownsRow 0 132 1 (.slice (some ⟨ig, 0, none⟩) 1 ic) 1 [.iface T2 v2] := ownsRow_keep hrow hS2 (fun _ _ x => x)
        have hsr3 := ownsRow_keep hsr1 ((((Mods.refl (fun _ => False) X).drew).trans ((grown_mods hgrow).mono (fun _ _ h => by cases h))).trans hS2) (fun _ _ x => x)
        have hig9 : w.heap.size ≤ ig := by
          rcases hloc with h | h
          · cases h
          · rw [h]
            exact hE1.mods.size
        clear hE1 hE2 hS2 hrow hgrow hloc hsr1
        obtain ⟨k0, k1, k2⟩ := hE3.cells
        obtain ⟨x0, xf, xl⟩ := hE3.m2c 0
        obtain ⟨z0, zf, zl⟩ := hE3.m1c 0
        have z3 := (hE3.m1c 3).1
        have HE3 := Lib.hid hE3
        have HDb := Lib.hid hDb
        have HIg := Lib.hid hIg
        have HSr := Lib.hid hsr3
        clear hE3 hDb hIg hsr3
        go_wp2_with fail
        go_region
        go_wp2_with fail
        clear k0 k1 k2 x0 xf xl z0 zf zl z3
        have hm4 := two_mods X2 m1 m2 (.string ByteArray.empty) (.string ByteArray.empty)
        have hE4 := (HE3.out.setI hm12 0 (.string ByteArray.empty)).setJ hm12 0 (.string ByteArray.empty)
        generalize (World.setCell (World.setCell X2 _ _) _ _ : World) = Y at hm4 hE4 ⊢
        have hDb4 := two_blk HE3.out hm4 HDb.out (by decide)
        have hIg4 := two_row HE3.out hm4 HIg.out (by decide)
        have hSr4 := two_row HE3.out hm4 HSr.out (by decide)
        clear hm4 HE3 HDb HIg HSr
        obtain ⟨k0, k1, k2⟩ := hE4.cells
        have z3 := (hE4.m1c 3).1
        have HE4 := Lib.hid hE4
        have HDb := Lib.hid hDb4
        have HIg := Lib.hid hIg4
        have HSr := Lib.hid hSr4
        clear hE4 hDb4 hIg4 hSr4
        go_region
        go_wp2_with fail
        have hDb5 := db_setD HE4.out HDb.out (.slice (some ⟨g, 0, none⟩) 1 cap)
        have hIg5 := ig_setD HE4.out HIg.out (.slice (some ⟨g, 0, none⟩) 1 cap)
        have hSr5 := row_setD HE4.out HSr.out (.slice (some ⟨g, 0, none⟩) 1 cap)
        have hE5 := HE4.out.setD 1
        clear k0 k1 k2 z3 HE4 HDb HIg HSr
        generalize (World.setCell Y _ _ : World) = Z at hDb5 hIg5 hSr5 hE5 ⊢
        have hSZ : Same Z Z.drew.drew := ((Mods.refl (fun _ => False) Z).drew).drew
        generalize (World.drew (World.drew Z) : World) = V at hSZ ⊢
        have hE6 := hE5.same hSZ
        have hDb6 := hSZ.blk hDb5
        have hIg6 := ownsRow_keep hIg5 hSZ (fun _ _ x => x)
        have hSr6 := ownsRow_keep hSr5 hSZ (fun _ _ x => x)
        clear hDb5 hIg5 hSr5 hE5 hSZ
        refine (trim_tilde _ _ m1 sg sc 1 1 (some ⟨g, 0, none⟩) cap _ V hE6.S hE6.D hSr6 hE6.b1 rfl (Nat.le_refl _) hsc).mono ?_
        rintro e V2 ⟨rfl, hT⟩
        have hE7 := hE6.trimmed hT
        have hDb7 := S_blk hE6 hT.1 hDb6 (by decide)
        have hIg7 := S_row hE6 hT.1 hIg6 (by decide)
        clear hE6 hDb6 hIg6 hSr6 hT
        have HE7 := Lib.hid hE7
        have HDb := Lib.hid hDb7
        have HIg := Lib.hid hIg7
        obtain ⟨k0, k1, k2⟩ := hE7.cells
        clear hE7 hDb7 hIg7
        go_wp2_with (at_builtin; refine wl_room_inl rfl (.tmp 346) (.tmp 349) rfl g 1 5 cap _ (ownsRow_keep HE7.out.row ((Mods.refl (fun _ => False) V2).alloc _) (fun _ _ x => x)) (by omega) (.iface 217 (.pointer (some ⟨w1.heap.size, 0, none⟩))) rfl V2.heap.size 1 rfl rfl ((Blk.newAt _ _ rfl).cell 0) ?_)
        intro wB hmB hrB
        have hEB := HE7.out.app ((Mods.refl (fun _ => False) V2).alloc _) hmB hrB
        have hDbB := db_app HE7.out HDb.out ((Mods.refl (fun _ => False) V2).alloc _) hmB
        have hIgB := ig_app HE7.out HIg.out (by omega) ((Mods.refl (fun _ => False) V2).alloc _) hmB
        clear k0 k1 k2 hmB hrB HE7 HDb HIg
        obtain ⟨k0, k1, k2⟩ := hEB.cells
        have HEB := Lib.hid hEB
        have HDb := Lib.hid hDbB
        have HIg := Lib.hid hIgB
        clear hEB hDbB hIgB
        go_wp2_with fail
        have hEU := HEB.out.setD 2
        have hDbU := db_setD HEB.out HDb.out (.slice (some ⟨g, 0, none⟩) 2 cap)
        have hIgU := ig_setD HEB.out HIg.out (.slice (some ⟨g, 0, none⟩) 2 cap)
        clear k0 k1 k2 HEB HDb HIg
        generalize (World.setCell wB _ _ : World) = U at hEU hDbU hIgU ⊢
        have x0 := (hEU.m2c 0).1
        have HEU := Lib.hid hEU
        clear hEU
        rw [rounds_succ]
        go_wp2_with fail
        rw [Exit.noGoto_normal]
        go_wp2_with fail
        refine Handed.intro (5 - (3 + 1)) (by omega) (hJ _ _ _ ⟨3 + 1, (fun d => cond (Nat.ble 11 d && Nat.ble d 434) (cond (Nat.ble d 218) (cond (Nat.ble d 106) (cond (Nat.ble d 58) (cond (Nat.ble d 26) (List.getD [_, _, _, _, _, _, _, _, _, _, _, undef, _, _, _, _] (d - 11) undef) (cond (Nat.ble d 42) (List.getD [_, _, _, _, _, _, _, _, _, _, _, _, _, _, _, _] (d - 27) undef) (List.getD [_, _, _, _, _, _, _, _, _, _, _, _, _, _, _, _] (d - 43) undef))) (cond (Nat.ble d 74) (List.getD [_, _, _, _, _, _, _, _, _, _, _, _, _, _, _, _] (d - 59) undef) (cond (Nat.ble d 90) (List.getD [_, _, _, _, _, _, _, _, _, _, _, _, _, _, _, _] (d - 75) undef) (List.getD [_, _, _, _, _, _, _, _, _, _, _, _, _, _, _, _] (d - 91) undef)))) (cond (Nat.ble d 154) (cond (Nat.ble d 122) (List.getD [_, _, _, _, _, _, _, _, _, _, _, _, _, _, _, _] (d - 107) undef) (cond (Nat.ble d 138) (List.getD [_, _, _, _, _, _, _, _, _, _, _, _, _, _, _, _] (d - 123) undef) (List.getD [_, _, _, _, _, _, _, _, _, _, _, _, _, _, _, _] (d - 139) undef))) (cond (Nat.ble d 186) (cond (Nat.ble d 170) (List.getD [_, _, _, _, _, _, _, _, _, _, _, _, _, _, _, _] (d - 155) undef) (List.getD [_, _, _, _, _, _, _, _, _, _, _, _, _, _, _, _] (d - 171) undef)) (cond (Nat.ble d 202) (List.getD [_, _, _, _, _, _, _, _, _, _, _, _, _, _, _, _] (d - 187) undef) (List.getD [_, _, _, _, _, _, _, _, _, _, _, _, _, _, _, _] (d - 203) undef))))) (cond (Nat.ble d 330) (cond (Nat.ble d 266) (cond (Nat.ble d 234) (List.getD [_, _, _, _, _, _, _, _, _, _, _, _, _, _, _, _] (d - 219) undef) (cond (Nat.ble d 250) (List.getD [_, _, _, _, _, _, _, _, _, _, _, _, _, _, _, _] (d - 235) undef) (List.getD [_, _, _, _, _, _, _, _, _, _, _, _, _, _, _, _] (d - 251) undef))) (cond (Nat.ble d 298) (cond (Nat.ble d 282) (List.getD [_, _, _, _, _, _, _, _, _, _, _, _, _, _, _, _] (d - 267) undef) (List.getD [_, _, _, _, _, _, _, _, _, _, _, _, _, _, _, _] (d - 283) undef)) (cond (Nat.ble d 314) (List.getD [_, _, _, _, _, _, _, _, _, _, _, _, _, _, _, _] (d - 299) undef) (List.getD [_, _, _, _, _, _, _, _, _, _, _, _, _, _, _, _] (d - 315) undef)))) (cond (Nat.ble d 378) (cond (Nat.ble d 346) (List.getD [_, _, _, _, _, _, _, _, _, _, _, _, _, _, _, _] (d - 331) undef) (cond (Nat.ble d 362) (List.getD [_, _, _, _, _, _, _, _, _, _, _, _, _, _, _, _] (d - 347) undef) (List.getD [_, _, _, _, _, _, _, _, _, _, _, _, _, _, _, _] (d - 363) undef))) (cond (Nat.ble d 410) (cond (Nat.ble d 394) (List.getD [_, _, _, _, _, _, _, _, _, _, _, _, _, _, _, _] (d - 379) undef) (List.getD [_, _, _, _, _, _, _, _, _, _, _, _, _, _, _, _] (d - 395) undef)) (cond (Nat.ble d 426) (List.getD [_, _, _, _, _, _, _, _, _, _, _, _, _, _, _, _] (d - 411) undef) (List.getD [_, _, _, _, _, _, _, _] (d - 427) undef)))))) (v d)), ⟨rfl, by omega, Or.inr (Or.inr (Or.inr (Or.inl ⟨rfl, _, w1.heap.size, ig, ic, hig9, HEU.out, hDbU, hIgU⟩)))⟩, rfl⟩)
  · skip
    obtain ⟨k0, k1, k2⟩ := hE.cells
    have s0 : wr.cell? ⟨g, 4, none⟩ = some (.iface T4 v4) := hE.src 4 _ rfl
    have q1 := h4.open_
    have q2 := h4.emph
    have hSd : ∀ o, Same wr ((wr.alloc o).drew) := fun o => ((Mods.refl (fun _ => False) wr).alloc o).drew
    go_wp2_with fail
    go_region_law (refine st_room_inl rfl (.tmp 55) (.tmp 60) rfl g 2 5 cap _ (ownsRow_keep hE.row (hSd _) (fun _ _ x => x)) (by omega) (.iface T4 v4) rfl wr.heap.size 1 rfl rfl ((Blk.drew (Blk.newAt _ _ rfl)).cell 0) ?_; intro wB hmB hrB; have hEB := hE.app (hSd _) hmB hrB; obtain ⟨k0', k1', k2'⟩ := hEB.cells)
    all_goals
      go_wp2_with fail
      refine Handed.intro (5 - (4 + 1)) (by omega) (hJ _ _ _ ⟨4 + 1, (fun d => cond (Nat.ble 11 d && Nat.ble d 61) (cond (Nat.ble d 42) (cond (Nat.ble d 26) (List.getD [_, _, _, _, _, _, _, _, _, _, _, undef, _, _, _, _] (d - 11) undef) (List.getD [_, _, _, _, _, _, _, _, _, _, _, _, _, _, _, _] (d - 27) undef)) (cond (Nat.ble d 58) (List.getD [_, _, _, _, _, _, _, _, _, _, _, _, _, _, _, _] (d - 43) undef) (List.getD [_, _, _] (d - 59) undef))) (v d)), ⟨rfl, by omega, Or.inr (Or.inr (Or.inr (Or.inr ⟨rfl, sa, db, ig, ic, hdi, hEB.setD 3, db_setD hEB (db_app hE hdb (hSd _) hmB) _, ig_setD hEB (ig_app hE hig (by omega) (hSd _) hmB) _⟩)))⟩, rfl⟩)
  · obtain ⟨k0, k1, k2⟩ := hE.cells
    have HS : Hid (St4 w wr g cap m1 m2 T0 T2 T4 v0 v2 v4 tt 5) := Lib.hid (Or.inr (Or.inr (Or.inr (Or.inr ⟨rfl, sa, db, ig, ic, hdi, hE, hdb, hig⟩))))
    clear hE hdb hig
    go_wp2_with fail
    go_ret
    exact ⟨rfl, HS.out⟩
end Go.Proofs.YtdnlfdppjfjncaaGreatDoor

/- parseEmph: tildes beside a word. -/
namespace Go.Proofs.YtdnlfdppjfjncaaGreatDoor.G
open Go Go.RowKit Go.Proofs

theorem d_no0 {c : UInt8} (h : c.toNat ≠ 126) : ((c.toNat : Int) == 126) = false := beq_eq_false_iff_ne.2 (fun he => h (by omega))

set_option maxRecDepth 100000 in
set_option maxHeartbeats 8000000 in
theorem tilde_call (s : ByteArray) (k n J : Nat) (a b o cl : Bool) (hs : s.size ≤ 1000000) (hk : 0 < k) (hk1 : k - 1 < s.size) (hk9 : k < s.size) (hkn : J < s.size) (hJ : J = k + n) (hn : n = 1 ∨ n = 2) (hrun : ∀ j (h : j < s.size), k ≤ j → j < J → s[j] = 126) (hB : WS s[k - 1] b) (hA : WS s[J] a)
    (hab : (a = false ∧ b = true ∧ o = true ∧ cl = false) ∨ (a = true ∧ b = false ∧ o = false ∧ cl = true)) :
    PieceCall s k 81 (mark (s.extract k J) o cl n) k J := by
  intro bp q W hq
  have w1 : (k : Int) < s.size := by omega
  have w2 : (0 : Int) ≤ k := by omega
  have w3 : IntKind.i64.wrap ((k : Int) + 1) = (k : Int) + 1 := IntWalk.i64_in _ (by omega)
  have w6 : ((k : Int) == 0) = false := beq_eq_false_iff_ne.2 (by omega)
  have w6' : ¬ k = 0 := by omega
  have w7 : (k : Int) ≤ s.size := by omega
  have hsk := hrun k hk9 (Nat.le_refl _) (by omega)
  have HR := Lib.hid hrun
  have hne : s[J].toNat ≠ 126 := by rcases hA with ⟨_, h⟩ | ⟨_, h | h | h⟩ <;> first | (rw [h]; decide) | omega
  have HNE := Lib.hid hne
  have HBE := Lib.hid (before_at s k b hs hk (Nat.le_of_lt hk9) hB)
  have HAF := Lib.hid (after_at s J a hs hkn hA)
  have HB := Lib.hid hB
  have HA := Lib.hid hA
  have hq' : PsAt W bp { q with corner := q.corner } := hq
  have HQ0 := Lib.hid hq'
  have hbl := hq.lt
  have f6 := hq.fr 6
  have k6 := hq.corner
  have HJ := Lib.hid hJ
  clear hrun hne hB hA hq hq' hJ
  go_enter Tryz.func81, Tryz.ntmps81
  go_wp2_with fail
  go_loopg [11] (J - (k + 1)) (fun m v wr => ∃ j : Nat, v = .int .i64 j ∧ m = J - j ∧ k + 1 ≤ j ∧ j ≤ J ∧ W = wr)
  case atStart => exact ⟨k + 1, by simp, rfl, Nat.le_refl _, by have := HJ.out; omega, rfl⟩
  case round =>
    obtain ⟨j, rfl, hm, hj1, hj, rfl⟩ := hrel
    have HM0 := Lib.hid hm
    clear hm
    have v1 : (j : Int) < s.size := by omega
    have v2 : (0 : Int) ≤ j := by omega
    have v3 : IntKind.i64.wrap ((j : Int) + 1) = (j : Int) + 1 := IntWalk.i64_in _ (by omega)
    by_cases hlt : j < J
    · have d1 : ((s[j].toNat : Int) == 126) = true := by rw [HR.out j (by omega) (by omega) hlt]; rfl
      go_wp2_with fail
      go_roundg (J - (j + 1))
      case measure => have := HM0.out; omega
      case rel => exact ⟨j + 1, by simp, rfl, by omega, by omega, rfl⟩
    · have hjJ : j = J := by omega
      subst hjJ
      have d1 : ((s[j].toNat : Int) == 126) = false := d_no0 HNE.out
      have w5 : ¬ ((s.size : Int) ≤ j) := by omega
      have w8 : (j : Int) ≤ s.size := by omega
      have w11 : (k : Int) ≤ j := by omega
      rcases hn with rfl | rfl
      · have w4 : IntKind.i64.wrap ((j : Int) - k) = 1 := by rw [show (j : Int) - k = 1 by have := HJ.out; omega]; exact IntWalk.i64_in _ (by omega)
        have hset : Mods (fun k => k = bp) W (W.setCell ⟨bp, 6, none⟩ (.bool true)) := (Mods.refl (fun k => k = bp) W).setCell (p := ⟨bp, 6, none⟩) (fun _ => rfl) _
        have hps := HQ0.out.set 6 (.bool true) { q with corner := true } rfl (by decide)
        obtain ⟨w1', hw1⟩ : ∃ x, x = W.setCell ⟨bp, 6, none⟩ (.bool true) := ⟨_, rfl⟩
        rw [← hw1] at hset hps
        have HW1 := Lib.hid hw1
        have HM := Lib.hid hset
        have HQ := Lib.hid hps
        clear hset hps hw1
        rcases hab with ⟨rfl, rfl, rfl, rfl⟩ | ⟨rfl, rfl, rfl, rfl⟩
        · go_wp2_with fail
          rw [← HW1.out]
          refine (HBE.out w1').mono ?_
          rintro e w' ⟨rfl, rfl⟩
          go_wp2_with fail
          refine (HAF.out w1').mono ?_
          rintro e w' ⟨rfl, rfl⟩
          go_wp2_with fail
          refine (uniSpace_ws _ _ w1' HA.out).mono ?_
          rintro e w' ⟨rfl, rfl⟩
          go_wp2_with fail
          refine (uniPunct_ws _ _ w1' HA.out).mono ?_
          rintro e w' ⟨rfl, rfl⟩
          go_wp2_with fail
          refine (uniSpace_ws _ _ w1' HB.out).mono ?_
          rintro e w' ⟨rfl, rfl⟩
          go_wp2_with fail
          exact bodyPost_ret (v := .tuple #[.iface (mark (s.extract k j) true false 1).ty (.pointer (some ⟨w1'.heap.size, 0, none⟩)), .int .i64 k, .int .i64 (j : Int), .bool true]) (by simp [results, Tryz.results81, go_sem, mark]) rfl
            ⟨w1'.heap.size, true, rfl, mark_end HM.out HQ.out⟩
        · go_wp2_with fail
          rw [← HW1.out]
          refine (HBE.out w1').mono ?_
          rintro e w' ⟨rfl, rfl⟩
          go_wp2_with fail
          refine (HAF.out w1').mono ?_
          rintro e w' ⟨rfl, rfl⟩
          go_wp2_with fail
          refine (uniSpace_ws _ _ w1' HA.out).mono ?_
          rintro e w' ⟨rfl, rfl⟩
          go_wp2_with fail
          refine (uniSpace_ws _ _ w1' HB.out).mono ?_
          rintro e w' ⟨rfl, rfl⟩
          go_wp2_with fail
          refine (uniPunct_ws _ _ w1' HB.out).mono ?_
          rintro e w' ⟨rfl, rfl⟩
          go_wp2_with fail
          exact bodyPost_ret (v := .tuple #[.iface (mark (s.extract k j) false true 1).ty (.pointer (some ⟨w1'.heap.size, 0, none⟩)), .int .i64 k, .int .i64 (j : Int), .bool true]) (by simp [results, Tryz.results81, go_sem, mark]) rfl
            ⟨w1'.heap.size, true, rfl, mark_end HM.out HQ.out⟩
      · have w4 : IntKind.i64.wrap ((j : Int) - k) = 2 := by rw [show (j : Int) - k = 2 by have := HJ.out; omega]; exact IntWalk.i64_in _ (by omega)
        have HM : Hid (Mods (fun k => k = bp) W W) := Lib.hid (Mods.refl _ _)
        have HQ := HQ0
        rcases hab with ⟨rfl, rfl, rfl, rfl⟩ | ⟨rfl, rfl, rfl, rfl⟩
        · go_wp2_with fail
          refine (HBE.out W).mono ?_
          rintro e w' ⟨rfl, rfl⟩
          go_wp2_with fail
          refine (HAF.out W).mono ?_
          rintro e w' ⟨rfl, rfl⟩
          go_wp2_with fail
          refine (uniSpace_ws _ _ W HA.out).mono ?_
          rintro e w' ⟨rfl, rfl⟩
          go_wp2_with fail
          refine (uniPunct_ws _ _ W HA.out).mono ?_
          rintro e w' ⟨rfl, rfl⟩
          go_wp2_with fail
          refine (uniSpace_ws _ _ W HB.out).mono ?_
          rintro e w' ⟨rfl, rfl⟩
          go_wp2_with fail
          exact bodyPost_ret (v := .tuple #[.iface (mark (s.extract k j) true false 2).ty (.pointer (some ⟨W.heap.size, 0, none⟩)), .int .i64 k, .int .i64 (j : Int), .bool true]) (by simp [results, Tryz.results81, go_sem, mark]) rfl
            ⟨W.heap.size, q.corner, rfl, mark_end HM.out HQ.out⟩
        · go_wp2_with fail
          refine (HBE.out W).mono ?_
          rintro e w' ⟨rfl, rfl⟩
          go_wp2_with fail
          refine (HAF.out W).mono ?_
          rintro e w' ⟨rfl, rfl⟩
          go_wp2_with fail
          refine (uniSpace_ws _ _ W HA.out).mono ?_
          rintro e w' ⟨rfl, rfl⟩
          go_wp2_with fail
          refine (uniSpace_ws _ _ W HB.out).mono ?_
          rintro e w' ⟨rfl, rfl⟩
          go_wp2_with fail
          refine (uniPunct_ws _ _ W HB.out).mono ?_
          rintro e w' ⟨rfl, rfl⟩
          go_wp2_with fail
          exact bodyPost_ret (v := .tuple #[.iface (mark (s.extract k j) false true 2).ty (.pointer (some ⟨W.heap.size, 0, none⟩)), .int .i64 k, .int .i64 (j : Int), .bool true]) (by simp [results, Tryz.results81, go_sem, mark]) rfl
            ⟨W.heap.size, q.corner, rfl, mark_end HM.out HQ.out⟩
end Go.Proofs.YtdnlfdppjfjncaaGreatDoor.G

/- A text of words with marks between: where its parts lie; FnStruck's plan. -/
namespace Go.Proofs.YtdnlfdppjfjncaaGreatDoor.G
open Go Go.RowKit Go.Proofs

/-- From place i on the text is L. -/
def FromL (s : ByteArray) (i : Nat) (L : List UInt8) : Prop := s.data.toList.drop i = L
theorem drop_c (s : ByteArray) (i : Nat) (h : i < s.size) : s.data.toList.drop i = s[i] :: s.data.toList.drop (i + 1) := by
  have h' : i < s.data.toList.length := h
  rw [List.drop_eq_getElem_cons h']
  rfl
theorem FromL.app {s : ByteArray} {i : Nat} {x y : List UInt8} (h : FromL s i (x ++ y)) : FromL s (i + x.length) y := by
  unfold FromL at *
  have h1 := congrArg (List.drop x.length) h
  rw [List.drop_drop, List.drop_left] at h1
  exact h1
theorem FromL.tl {s : ByteArray} {i : Nat} {c : UInt8} {r : List UInt8} (h : FromL s i (c :: r)) : FromL s (i + 1) r := FromL.app (x := [c]) h
theorem FromL.lt {s : ByteArray} {i : Nat} {c : UInt8} {r : List UInt8} (h : FromL s i (c :: r)) : i < s.size := by
  unfold FromL at h
  by_cases hlt : i < s.size
  · exact hlt
  · rw [List.drop_eq_nil_of_le (show s.data.toList.length ≤ i by have e : s.data.toList.length = s.size := rfl; omega)] at h
    cases h
theorem FromL.hd {s : ByteArray} {i : Nat} {c : UInt8} {r : List UInt8} (h : FromL s i (c :: r)) (hi : i < s.size) : s[i] = c := by
  unfold FromL at h
  rw [drop_c s i hi] at h
  exact (List.cons.inj h).1
theorem FromL.mem {s : ByteArray} {i : Nat} {x y : List UInt8} (h : FromL s i (x ++ y)) (j : Nat) (hj : j < s.size) (h1 : i ≤ j) (h2 : j < i + x.length) : s[j] ∈ x := by
  have hg : s.data.toList[j]? = some s[j] := by
    have h' : j < s.data.toList.length := hj
    rw [List.getElem?_eq_getElem h']
    rfl
  have hd : (s.data.toList.drop i)[j - i]? = s.data.toList[j]? := by rw [List.getElem?_drop, show i + (j - i) = j by omega]
  rw [show s.data.toList.drop i = _ from h, List.getElem?_append_left (by omega), hg] at hd
  exact List.mem_of_getElem? hd
theorem FromL.ext {s : ByteArray} {i : Nat} {x y : List UInt8} (h : FromL s i (x ++ y)) (j : Nat) (hj : j = i + x.length) : s.extract i j = strL x := by
  subst hj
  apply ByteArray.ext
  apply Array.toList_inj.1
  rw [Lib.extract_data, show s.data.toList.drop i = _ from h, show i + x.length - i = x.length by omega, List.take_left']
  · simp [strL]
  · rfl

theorem wd_dull (c : UInt8) (h : Wd c) : dull c = true := by
  have : ∀ n : Fin 256, ((48 ≤ n.1 ∧ n.1 ≤ 57) ∨ (65 ≤ n.1 ∧ n.1 ≤ 90) ∨ (97 ≤ n.1 ∧ n.1 ≤ 122)) → dull (UInt8.ofNat n.1) = true := by decide +kernel
  have h2 := this ⟨c.toNat, c.toNat_lt⟩ h
  simpa using h2

/-- A word: letters and digits. -/
structure Word (x : ByteArray) : Prop where
  pos : 0 < x.size
  le : x.size ≤ 20
  all : ∀ c ∈ x.data.toList, Wd c

/-- Idle signs are passed. -/
theorem plan_skip {o : Op} {s : ByteArray} {e : Nat} {r : List Pc} : ∀ (n k : Nat), k + n ≤ s.size → (∀ j (h : j < s.size), k ≤ j → j < k + n → Idle o s[j]) → Plan o s (k + n) e r → Plan o s k e r
  | 0, k, _, _, h => h
  | n + 1, k, hn, hd, h => Plan.dull (by omega) (hd k (by omega) (Nat.le_refl _) (by omega)) (plan_skip n (k + 1) (by omega) (fun j hj h1 h2 => hd j hj (by omega) (by omega)) (by rw [show k + 1 + n = k + (n + 1) by omega]; exact h))

def runL (n : Nat) : List UInt8 := List.replicate n 126
def struckL (a b c : ByteArray) (n : Nat) : List UInt8 := a.data.toList ++ 32 :: (runL n ++ (b.data.toList ++ (runL n ++ 32 :: c.data.toList)))
def struckT (a b c : ByteArray) (n : Nat) : ByteArray := strL (struckL a b c n)

theorem last_mem {s : ByteArray} {i : Nat} {x y : List UInt8} (h : FromL s i (x ++ y)) (hx : 0 < x.length) (hs : i + x.length - 1 < s.size) : s[i + x.length - 1] ∈ x := h.mem _ hs (by omega) (by omega)

theorem struck_plan (a b c : ByteArray) (n : Nat) (o : Op) (ho : o.strike = true) (ha : Word a) (hb : Word b) (hc : Word c) (hn : n = 1 ∨ n = 2) :
    Plan o (struckT a b c n) 0 0 [.plain (strL (a.data.toList ++ [32])), mark (strL (runL n)) true false n, .plain b, mark (strL (runL n)) false true n, .plain (strL (32 :: c.data.toList))] := by
  generalize hs : struckT a b c n = s
  have hlist : s.data.toList = struckL a b c n := by rw [← hs]; simp [struckT, strL]
  have ea : a.data.toList.length = a.size := rfl
  have eb : b.data.toList.length = b.size := rfl
  have ec : c.data.toList.length = c.size := rfl
  have er : (runL n).length = n := by simp [runL]
  have hsize : s.size = a.size + 1 + n + b.size + n + 1 + c.size := by
    have e : s.size = s.data.toList.length := rfl
    rw [e, hlist]
    simp only [struckL, List.length_append, List.length_cons, er]
    omega
  have h0 : FromL s 0 ((a.data.toList ++ [32]) ++ (runL n ++ (b.data.toList ++ (runL n ++ 32 :: c.data.toList)))) := by
    unfold FromL
    rw [List.drop_zero, hlist]
    simp [struckL]
  have hA := ha.pos
  have hA2 := ha.le
  have hB := hb.pos
  have hB2 := hb.le
  have hC := hc.pos
  have hC2 := hc.le
  have l1 : (a.data.toList ++ [32]).length = a.size + 1 := by simp [ea]
  have h1 : FromL s (a.size + 1) (runL n ++ (b.data.toList ++ (runL n ++ 32 :: c.data.toList))) := by have := h0.app; rw [l1, Nat.zero_add] at this; exact this
  have h2 : FromL s (a.size + 1 + n) (b.data.toList ++ (runL n ++ 32 :: c.data.toList)) := by have := h1.app; rw [er] at this; exact this
  have h3 : FromL s (a.size + 1 + n + b.size) (runL n ++ 32 :: c.data.toList) := by have := h2.app; rw [eb] at this; exact this
  have h4 : FromL s (a.size + 1 + n + b.size + n) (32 :: c.data.toList) := by have := h3.app; rw [er] at this; exact this
  have hrun : ∀ {i : Nat} {y : List UInt8}, FromL s i (runL n ++ y) → ∀ j (h : j < s.size), i ≤ j → j < i + n → s[j] = 126 := by
    intro i y h j hj x1 x2
    have := h.mem j hj x1 (by rw [er]; exact x2)
    exact (List.mem_replicate.1 this).2
  -- the last text
  have hfin : Plan o s (a.size + 1 + n + b.size + n) (a.size + 1 + n + b.size + n) [.plain (strL (32 :: c.data.toList))] := by
    have hf := Plan.fin (o := o) (s := s) (a.size + 1 + n + b.size + n)
    have hex : s.extract (a.size + 1 + n + b.size + n) s.size = strL (32 :: c.data.toList) := by
      have h5 : FromL s (a.size + 1 + n + b.size + n) ((32 :: c.data.toList) ++ []) := by rw [List.append_nil]; exact h4
      exact h5.ext s.size (by rw [List.length_cons]; omega)
    rw [if_pos (by omega), hex] at hf
    have h5 : FromL s (a.size + 1 + n + b.size + n) ((32 :: c.data.toList) ++ []) := by rw [List.append_nil]; exact h4
    refine plan_skip (1 + c.size) _ (by omega) (fun j hj x1 x2 => ?_) (by rw [show a.size + 1 + n + b.size + n + (1 + c.size) = s.size by omega]; exact hf)
    have := h5.mem j hj x1 (by rw [List.length_cons]; omega)
    rcases List.mem_cons.1 this with e | e
    · exact Or.inl (by rw [e]; decide)
    · exact Or.inl (wd_dull _ (hc.all _ e))
  -- the closing mark
  have hclose : Plan o s (a.size + 1 + n + b.size) (a.size + 1 + n) [.plain b, mark (strL (runL n)) false true n, .plain (strL (32 :: c.data.toList))] := by
    have hlast : s[a.size + 1 + n + b.size - 1]'(by omega) ∈ b.data.toList := by
      have := last_mem h2 (by omega) (by omega)
      simpa only [eb] using this
    have hcall := tilde_call s (a.size + 1 + n + b.size) n (a.size + 1 + n + b.size + n) true false false true (by omega) (by omega) (by omega) (by omega) (by omega) rfl hn (fun j hj x1 x2 => hrun h3 j hj x1 x2) (Or.inr ⟨rfl, hb.all _ hlast⟩) (Or.inl ⟨rfl, h4.hd h4.lt⟩) (Or.inr ⟨rfl, rfl, rfl, rfl⟩)
    rw [h3.ext _ (by rw [er])] at hcall
    have hp := Plan.piece (o := o) (s := s) (k := a.size + 1 + n + b.size) (e := a.size + 1 + n) (by omega) 81 (Or.inr (Or.inr (Or.inr (Or.inl ⟨hrun h3 _ (by omega) (Nat.le_refl _) (by omega), rfl, ho⟩)))) _ _ _ (by omega) (Nat.le_refl _) (by omega) (by omega) hcall (mark_ok _ _ _ _) hfin
    rw [if_pos (by omega), h2.ext _ (by rw [eb])] at hp
    have hbb : strL b.data.toList = b := by apply ByteArray.ext; simp [strL]
    rw [hbb] at hp
    exact hp
  have hmid : Plan o s (a.size + 1 + n) (a.size + 1 + n) [.plain b, mark (strL (runL n)) false true n, .plain (strL (32 :: c.data.toList))] := by
    refine plan_skip b.size _ (by omega) (fun j hj x1 x2 => ?_) hclose
    exact Or.inl (wd_dull _ (hb.all _ (h2.mem j hj x1 (by rw [eb]; exact x2))))
  have hopen : Plan o s (a.size + 1) 0 [.plain (strL (a.data.toList ++ [32])), mark (strL (runL n)) true false n, .plain b, mark (strL (runL n)) false true n, .plain (strL (32 :: c.data.toList))] := by
    have hbefore : s[a.size + 1 - 1]'(by omega) = 32 := by
      have h5 : FromL s 0 (a.data.toList ++ (32 :: (runL n ++ (b.data.toList ++ (runL n ++ 32 :: c.data.toList))))) := by
        have := h0
        simpa using this
      have h6 := h5.app
      rw [Nat.zero_add, ea] at h6
      have h7 := h6.hd h6.lt
      simpa only [Nat.add_sub_cancel] using h7
    have hafter : s[a.size + 1 + n]'(by omega) ∈ b.data.toList := h2.mem _ (by omega) (Nat.le_refl _) (by omega)
    have hcall := tilde_call s (a.size + 1) n (a.size + 1 + n) false true true false (by omega) (by omega) (by omega) (by omega) (by omega) rfl hn (fun j hj x1 x2 => hrun h1 j hj x1 x2) (Or.inl ⟨rfl, hbefore⟩) (Or.inr ⟨rfl, hb.all _ hafter⟩) (Or.inl ⟨rfl, rfl, rfl, rfl⟩)
    rw [h1.ext _ (by rw [er])] at hcall
    have hp := Plan.piece (o := o) (s := s) (k := a.size + 1) (e := 0) (by omega) 81 (Or.inr (Or.inr (Or.inr (Or.inl ⟨hrun h1 _ (by omega) (Nat.le_refl _) (by omega), rfl, ho⟩)))) _ _ _ (by omega) (Nat.le_refl _) (by omega) (by omega) hcall (mark_ok _ _ _ _) hmid
    rw [if_pos (by omega), h0.ext _ (by rw [l1, Nat.zero_add])] at hp
    exact hp
  refine plan_skip (a.size + 1) 0 (by omega) (fun j hj x1 x2 => ?_) (by rw [Nat.zero_add]; exact hopen)
  have := h0.mem j hj x1 (by rw [l1]; exact x2)
  rcases List.mem_append.1 this with e | e
  · exact Or.inl (wd_dull _ (ha.all _ e))
  · have e2 : s[j] = 32 := by simpa using e
    exact Or.inl (by rw [e2]; decide)
end Go.Proofs.YtdnlfdppjfjncaaGreatDoor.G

/- mergePlain over a row without two plain texts side by side, whatever else stands in it. -/
namespace Go.Proofs.YtdnlfdppjfjncaaGreatDoor
open Go Go.RowKit Go.Proofs

/-- Which places of a row hold a plain text; the others are none to toPlain. -/
structure Kinds (xs : List Value) (ks : List Bool) : Prop where
  len : xs.length = ks.length
  at_ : ∀ (i : Nat) (x : Value), xs[i]? = some x → ∃ b T, x = .iface T (.pointer (some ⟨b, 0, none⟩)) ∧ ((ks[i]? = some true ∧ T = 156) ∨ (ks[i]? = some false ∧ ∀ a W, Calls Tryz.prog 131 #[.iface T (.pointer a)] W fun e w' => e = .returned (.pointer none) ∧ W = w'))

theorem kind_at {w : World} {g n cap : Nat} {xs : List Value} {ks : List Bool} (hown : w.ownsRow 0 132 1 (.slice (some ⟨g, 0, none⟩) n cap) n xs) (hx : Kinds xs ks) (i : Nat) (hi : i < n) :
    (∃ b, w.cell? ⟨g, i, none⟩ = some (.iface 156 (.pointer (some ⟨b, 0, none⟩))) ∧ xs[i]? = some (.iface 156 (.pointer (some ⟨b, 0, none⟩))) ∧ ks[i]? = some true) ∨
    (∃ b T, w.cell? ⟨g, i, none⟩ = some (.iface T (.pointer (some ⟨b, 0, none⟩))) ∧ xs[i]? = some (.iface T (.pointer (some ⟨b, 0, none⟩))) ∧ ks[i]? ≠ some true ∧
      (∀ a W, Calls Tryz.prog 131 #[.iface T (.pointer a)] W fun e w' => e = .returned (.pointer none) ∧ W = w')) := by
  have hl : xs.length = n := by have := hown.1; omega
  obtain ⟨_, _, he, _, _, hc⟩ := ownsRow_form hown (by omega)
  cases he
  obtain ⟨x, hxi⟩ : ∃ x, xs[i]? = some x := ⟨_, List.getElem?_eq_getElem (by omega)⟩
  obtain ⟨b, T, rfl, ⟨h1, rfl⟩ | ⟨h1, h2⟩⟩ := hx.at_ i x hxi
  · exact Or.inl ⟨b, hc i _ hxi, hxi, h1⟩
  · exact Or.inr ⟨b, T, hc i _ hxi, hxi, by rw [h1]; simp, h2⟩

set_option maxRecDepth 100000 in
set_option maxHeartbeats 4000000 in
theorem mergePlain_k (q : Value) (g n cap : Nat) (xs : List Value) (ks : List Bool) (w : World) (hown : w.ownsRow 0 132 1 (.slice (some ⟨g, 0, none⟩) n cap) n xs) (hx : Kinds xs ks) (hpp : ∀ i, ks[i]? = some true → ks[i + 1]? = some true → False) (hn : n ≤ 1000000) :
    Calls Tryz.prog 92 #[q, .slice (some ⟨g, 0, none⟩) n cap] w fun e w' => e = .returned (.slice (some ⟨g, 0, none⟩) n cap) ∧ Same w w' := by
  have hcap : n ≤ cap := by
    rcases hown.2 with ⟨h, _⟩ | ⟨_, _, _, h, _, _, hc, _⟩
    · cases h
    · cases h; exact hc
  have c1 : (0 : Int) ≤ cap := by omega
  go_enter Tryz.func92, Tryz.ntmps92
  go_wp2_with fail
  go_loopg [5, 6, 7] (n + 1) (fun m v5 v6 v7 wr => ∃ i : Nat, v7 = .int .i64 i ∧ m = n + 1 - i ∧ i ≤ n ∧ Same w wr ∧
    ((v5 = .slice (some ⟨g, 0, none⟩) i cap ∧ v6 = .int .i64 i ∧ (∀ k, i = k + 1 → ks[k]? ≠ some true)) ∨ (∃ k, i = k + 1 ∧ v5 = .slice (some ⟨g, 0, none⟩) k cap ∧ v6 = .int .i64 k ∧ ks[k]? = some true)))
  case atStart => exact ⟨0, rfl, by omega, by omega, Mods.refl _ _, Or.inl ⟨rfl, rfl, fun k hk => by omega⟩⟩
  case round =>
    obtain ⟨i, rfl, rfl, hi, hm, hor⟩ := hrel
    have hownr := ownsRow_keep hown hm (fun _ _ x => x)
    have w1 : IntKind.i64.wrap ((i : Int) + 1) = (i : Int) + 1 := IntWalk.i64_in _ (by omega)
    have w2 : (0 : Int) ≤ i := by omega
    have HM := Lib.hid hm
    clear hm
    by_cases hlt : i < n
    · have w3 : (i : Int) < n := by omega
      have w4 : ¬ ((n : Int) ≤ i) := by omega
      rcases kind_at hownr hx i hlt with ⟨b, hc, hxi, hpi⟩ | ⟨b, T, hc, hxi, hpi, hTP⟩
      · rcases hor with ⟨rfl, rfl, hno⟩ | ⟨k, hik, rfl, rfl, hk⟩
        · clear hno
          go_wp2_with fail
          refine (toPlain_plain _ wr).mono ?_
          rintro e w' ⟨rfl, rfl⟩
          go_wp2_with fail
          go_roundg (n + 1 - (i + 1))
          case measure => omega
          case rel => exact ⟨i + 1, by simp, rfl, by omega, HM.out, Or.inr ⟨i, rfl, rfl, rfl, hpi⟩⟩
        · subst hik; exact (hpp k hk hpi).elim
      · rcases hor with ⟨rfl, rfl, hno⟩ | ⟨k, hik, rfl, rfl, hk⟩
        · clear hno
          go_wp2_with fail
          refine (hTP _ wr).mono ?_
          rintro e w' ⟨rfl, rfl⟩
          go_wp2_with (at_builtin; refine wl_same_inl rfl (.tmp 40) (.tmp 45) rfl g i n cap xs (hownr.alloc _) hlt _ hxi rfl wr.heap.size 1 rfl rfl ((Blk.newAt _ _ rfl).cell 0) ?_)
          intro wB hmB
          go_wp2_with fail
          go_roundg (n + 1 - (i + 1))
          case measure => omega
          case rel => exact ⟨i + 1, by simp, rfl, by omega, (HM.out.alloc _).trans hmB, Or.inl ⟨rfl, by simp, fun k hk hs' => by cases hk; exact hpi hs'⟩⟩
        · obtain ⟨b0, hc0, hx0, hp0⟩ | ⟨b0, T0, hc0, hx0, hp0, ho0⟩ := kind_at hownr hx k (by omega)
          · have v1 : (k : Int) < i := by omega
            have v2 : (0 : Int) ≤ k := by omega
            have v3 : (k : Int) ≤ i := by omega
            have v4 : (i : Int) ≤ cap := by omega
            have v5 : i - k = 1 := by omega
            have hkn : k < n := by omega
            have HI := Lib.hid hik
            clear hik hk
            go_wp2_with fail
            refine (hTP _ wr).mono ?_
            rintro e w' ⟨rfl, rfl⟩
            go_wp2_with fail
            refine (mergePlain1_one g k _ _ wr hc0).mono ?_
            rintro e w' ⟨rfl, rfl⟩
            go_wp2_with (at_builtin; refine wl_same_inl rfl (.tmp 27) (.tmp 34) rfl g k n cap xs (hownr.alloc _) hkn _ hx0 rfl wr.heap.size 1 rfl rfl ((Blk.newAt _ _ rfl).cell 0) ?_)
            intro wB hmB
            have hmB' := ((Mods.refl (fun _ => False) wr).alloc _).trans hmB
            have hownB := ownsRow_keep hownr hmB' (fun _ _ x => x)
            have hcB : wB.cell? ⟨g, i, none⟩ = some (.iface T (.pointer (some ⟨b, 0, none⟩))) := by
              obtain ⟨_, _, he, _, _, hcc⟩ := ownsRow_form hownB (by omega)
              cases he
              exact hcc i _ hxi
            go_wp2_with (at_builtin; refine wl_same_inl rfl (.tmp 40) (.tmp 45) rfl g (k + 1) n cap xs (hownB.alloc _) (by have := HI.out; omega) _ (by rw [← HI.out]; exact hxi) rfl wB.heap.size 1 rfl rfl ((Blk.newAt _ _ rfl).cell 0) ?_)
            intro wC hmC
            go_wp2_with fail
            go_roundg (n + 1 - (i + 1))
            case measure => omega
            case rel => exact ⟨i + 1, by simp, rfl, by omega, ((HM.out.trans hmB').alloc _).trans hmC, Or.inl ⟨by rw [HI.out], by simp, fun k hk hs' => by cases hk; exact hpi hs'⟩⟩
          · exact absurd hk hp0
    · have hin : i = n := by omega
      subst hin
      have w3 : ¬ ((i : Int) < i) := by omega
      rcases hor with ⟨rfl, rfl, hno⟩ | ⟨k, hik, rfl, rfl, hk⟩
      · clear hno
        go_wp2_with fail
        go_ret
        exact ⟨rfl, HM.out⟩
      · obtain ⟨b0, hc0, hx0, hp0⟩ | ⟨b0, T0, hc0, hx0, hp0, ho0⟩ := kind_at hownr hx k (by omega)
        · have v1 : (k : Int) < i := by omega
          have v2 : (0 : Int) ≤ k := by omega
          have v3 : (k : Int) ≤ i := by omega
          have v4 : (i : Int) ≤ cap := by omega
          have v5 : i - k = 1 := by omega
          have hkn : k < i := by omega
          have HI := Lib.hid hik
          clear hik hk
          go_wp2_with fail
          refine (mergePlain1_one g k _ _ wr hc0).mono ?_
          rintro e w' ⟨rfl, rfl⟩
          go_wp2_with (at_builtin; refine wl_same_inl rfl (.tmp 27) (.tmp 34) rfl g k i cap xs (hownr.alloc _) hkn _ hx0 rfl wr.heap.size 1 rfl rfl ((Blk.newAt _ _ rfl).cell 0) ?_)
          intro wB hmB
          have hmB' := ((Mods.refl (fun _ => False) wr).alloc _).trans hmB
          go_wp2_with fail
          go_ret
          exact ⟨by rw [HI.out]; rfl, HM.out.trans hmB'⟩
        · exact absurd hk hp0
end Go.Proofs.YtdnlfdppjfjncaaGreatDoor
