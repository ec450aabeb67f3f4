/- The parser's state in memory, and the functions that only look at it. -/
import Derived.Test.YtdnlfdppjfjncaaGreatDoorLine4
namespace Go.Proofs.YtdnlfdppjfjncaaGreatDoor
open Go Go.RowKit Go.Proofs

/-- The fields of the parser's state (all but those of the code spans). -/
structure PSt where
  parser : Nat
  root : Value
  links : Value
  lineno : Int
  stack : Value
  depth : Int
  corner : Bool
  s : ByteArray
  emitted : Int
  list : Value
  lists : Value
  texts : Value

def psHead (p : PSt) : List Value :=
  [.pointer (some ⟨p.parser, 0, none⟩), p.root, p.links, .int .i64 p.lineno, p.stack, .int .i64 p.depth, .bool p.corner, .string p.s, .int .i64 p.emitted, p.list, p.lists, p.texts]

def PsAt (w : World) (bp : Nat) (p : PSt) : Prop := ∃ tail : List Value, Blk w bp (psHead p ++ tail).toArray 95

theorem PsAt.cell {w : World} {bp : Nat} {p : PSt} (h : PsAt w bp p) (i : Nat) (hi : i < 12) : w.cell? ⟨bp, i, none⟩ = (psHead p)[i]? := by
  obtain ⟨tail, h⟩ := h
  rw [h.cell i]
  have : (psHead p).length = 12 := rfl
  simp [List.getElem?_append, this, hi]

theorem PsAt.fr {w : World} {bp : Nat} {p : PSt} (h : PsAt w bp p) (i : Nat) : w.frozen? ⟨bp, i, none⟩ = false := by
  obtain ⟨tail, h⟩ := h
  exact h.fr i
theorem PsAt.lt {w : World} {bp : Nat} {p : PSt} (h : PsAt w bp p) : bp < w.heap.size := by
  obtain ⟨tail, h⟩ := h
  exact h.lt

section
variable {w : World} {bp : Nat} {p : PSt} (h : PsAt w bp p)
include h
theorem PsAt.parser : w.cell? ⟨bp, 0, none⟩ = some (.pointer (some ⟨p.parser, 0, none⟩)) := h.cell 0 (by decide)
theorem PsAt.root : w.cell? ⟨bp, 1, none⟩ = some p.root := h.cell 1 (by decide)
theorem PsAt.links : w.cell? ⟨bp, 2, none⟩ = some p.links := h.cell 2 (by decide)
theorem PsAt.lineno : w.cell? ⟨bp, 3, none⟩ = some (.int .i64 p.lineno) := h.cell 3 (by decide)
theorem PsAt.stack : w.cell? ⟨bp, 4, none⟩ = some p.stack := h.cell 4 (by decide)
theorem PsAt.depth : w.cell? ⟨bp, 5, none⟩ = some (.int .i64 p.depth) := h.cell 5 (by decide)
theorem PsAt.corner : w.cell? ⟨bp, 6, none⟩ = some (.bool p.corner) := h.cell 6 (by decide)
theorem PsAt.s : w.cell? ⟨bp, 7, none⟩ = some (.string p.s) := h.cell 7 (by decide)
theorem PsAt.emitted : w.cell? ⟨bp, 8, none⟩ = some (.int .i64 p.emitted) := h.cell 8 (by decide)
theorem PsAt.list : w.cell? ⟨bp, 9, none⟩ = some p.list := h.cell 9 (by decide)
theorem PsAt.lists : w.cell? ⟨bp, 10, none⟩ = some p.lists := h.cell 10 (by decide)
theorem PsAt.texts : w.cell? ⟨bp, 11, none⟩ = some p.texts := h.cell 11 (by decide)
theorem PsAt.keep {S : Nat → Prop} {w' : World} (hm : Mods S w w') (hS : ¬ S bp) : PsAt w' bp p := by
  obtain ⟨tail, h⟩ := h
  exact ⟨tail, h.keep hm hS⟩
theorem PsAt.same {w' : World} (hm : Same w w') : PsAt w' bp p := h.keep hm (fun x => x)
theorem PsAt.alloc (o : Obj) : PsAt (w.alloc o) bp p := by
  obtain ⟨tail, h⟩ := h
  exact ⟨tail, h.alloc o⟩
theorem PsAt.drewN (n : Nat) : PsAt (w.drewN n) bp p := h
theorem PsAt.drew : PsAt w.drew bp p := h
theorem PsAt.set_other {a : Addr} (ha : a.block ≠ bp) (v : Value) : PsAt (w.setCell a v) bp p := by
  obtain ⟨tail, h⟩ := h
  exact ⟨tail, h.set_other ha v⟩
theorem PsAt.set (i : Nat) (v : Value) (q : PSt) (hq : (psHead p).set i v = psHead q) (hi : i < 12) : PsAt (w.setCell ⟨bp, i, none⟩ v) bp q := by
  obtain ⟨tail, h⟩ := h
  refine ⟨tail, ?_⟩
  have := h.set_same i v
  have hl : (psHead p).length = 12 := rfl
  have e : (psHead p ++ tail).toArray.setIfInBounds i v = (psHead q ++ tail).toArray := by
    rw [← hq]
    simp [hl, hi]
  rwa [e] at this
end

/-- An open block: what builds it, what stands in it, its lines. -/
structure OB where
  b : Value
  inner : Value
  s : Int
  e : Int
def OB.cells (o : OB) : List Value := [o.b, o.inner, .int .i64 o.s, .int .i64 o.e]
theorem OB.len (o : OB) : o.cells.length = 4 := rfl

def obCells : List OB → List Value
  | [] => []
  | o :: l => o.cells ++ obCells l
theorem obCells_len : ∀ l : List OB, (obCells l).length = l.length * 4
  | [] => rfl
  | o :: l => by simp [obCells, obCells_len l, OB.len]; omega
theorem obCells_get : ∀ (l : List OB) (k j : Nat) (o : OB), l[k]? = some o → j < 4 → (obCells l)[k * 4 + j]? = o.cells[j]?
  | [], k, j, o, h, _ => by simp at h
  | x :: l, 0, j, o, h, hj => by
    simp at h
    subst h
    simp [obCells, List.getElem?_append, OB.len, hj]
  | x :: l, k + 1, j, o, h, hj => by
    simp at h
    have := obCells_get l k j o h hj
    simp only [obCells]
    rw [List.getElem?_append_right (by simp [OB.len]; omega), OB.len, ← this]
    congr 1
    omega

/-- Block g holds these open blocks, and room for cap of them. -/
def StackIs (w : World) (g cap : Nat) (l : List OB) : Prop :=
  l.length ≤ cap ∧ cap ≤ maxLen ∧ ∃ cur : Array Value, Blk w g cur 121 ∧ cur.size = cap * 4 ∧ cur.toList.take (l.length * 4) = obCells l

theorem StackIs.cell {w : World} {g cap : Nat} {l : List OB} (h : StackIs w g cap l) (k j : Nat) (o : OB) (hk : l[k]? = some o) (hj : j < 4) :
    w.cell? ⟨g, k * 4 + j, none⟩ = o.cells[j]? := by
  obtain ⟨h1, h2, cur, hb, hc, ht⟩ := h
  rw [hb.cell]
  have hk' : k < l.length := (List.getElem?_eq_some_iff.1 hk).1
  have := obCells_get l k j o hk hj
  rw [← ht, List.getElem?_take_of_lt (by omega)] at this
  simpa using this
theorem StackIs.fr {w : World} {g cap : Nat} {l : List OB} (h : StackIs w g cap l) (i : Nat) : w.frozen? ⟨g, i, none⟩ = false := by
  obtain ⟨h1, h2, cur, hb, hc, ht⟩ := h
  exact hb.fr i
theorem StackIs.lt {w : World} {g cap : Nat} {l : List OB} (h : StackIs w g cap l) : g < w.heap.size := by
  obtain ⟨h1, h2, cur, hb, hc, ht⟩ := h
  exact hb.lt
theorem StackIs.keep {w w' : World} {g cap : Nat} {l : List OB} {S : Nat → Prop} (h : StackIs w g cap l) (hm : Mods S w w') (hS : ¬ S g) : StackIs w' g cap l := by
  obtain ⟨h1, h2, cur, hb, hc, ht⟩ := h
  exact ⟨h1, h2, cur, hb.keep hm hS, hc, ht⟩

theorem as_para_yes (v : Value) (w : World) : (Instr.typeAssert (.iface 162 v) 118 162 true).run Tryz.prog w = .ok (.tuple #[v, .bool true]) w := by kernel_rfl
theorem as_ptr_no (T U S : Nat) (hU : Tryz.prog.underlying U = some (.pointer S)) (hz : ∀ w, (zeroValue U).run Tryz.prog w = .ok (.pointer none) w) (X : Nat) (v : Value) (w : World) (h : T ≠ U) :
    (Instr.typeAssert (.iface T v) X U true).run Tryz.prog w = .ok (.tuple #[.pointer none, .bool false]) w := by
  simp [Instr.typeAssert, run_underlying hU, h, hz]
theorem as_para_no (T X : Nat) (v : Value) (w : World) (h : T ≠ 162) :
    (Instr.typeAssert (.iface T v) X 162 true).run Tryz.prog w = .ok (.tuple #[.pointer none, .bool false]) w :=
  as_ptr_no T _ 166 (by kernel_rfl) (fun _ => by kernel_rfl) X v w h

set_option maxHeartbeats 1000000 in
theorem para_yes (bp g n cap : Nat) (p : PSt) (v : Value) (w : World) (hp : PsAt w bp p) (hst : p.stack = .slice (some ⟨g, 0, none⟩) (n + 1) cap) (hn : n ≤ 1000000)
    (hb : w.cell? ⟨g, n * 4, none⟩ = some (.iface 162 v)) :
    Calls Tryz.prog 103 #[.pointer (some ⟨bp, 0, none⟩)] w fun e w' => e = .returned v ∧ ∃ k, w' = w.drewN k := by
  have k4 := hp.stack
  rw [hst] at k4
  clear hst
  have w1 : IntKind.i64.wrap (n : Int) = n := IntWalk.i64_in _ (by omega)
  have w2 : (0 : Int) ≤ n := by omega
  have w3 : (n : Int) < (n : Int) + 1 := by omega
  have hA := as_para_yes
  go_enter Tryz.func103, Tryz.ntmps103
  go_wp2_with fail
  go_quiet (fail)
  go_wp2
  go_ret
  exact ⟨rfl, _, rfl⟩

set_option maxHeartbeats 1000000 in
theorem para_other (bp g n cap : Nat) (p : PSt) (T : Nat) (v : Value) (w : World) (hp : PsAt w bp p) (hst : p.stack = .slice (some ⟨g, 0, none⟩) (n + 1) cap) (hn : n ≤ 1000000)
    (hb : w.cell? ⟨g, n * 4, none⟩ = some (.iface T v)) (hT : T ≠ 162) :
    Calls Tryz.prog 103 #[.pointer (some ⟨bp, 0, none⟩)] w fun e w' => e = .returned (.pointer none) ∧ ∃ k, w' = w.drewN k := by
  have k4 := hp.stack
  rw [hst] at k4
  clear hst
  have w1 : IntKind.i64.wrap (n : Int) = n := IntWalk.i64_in _ (by omega)
  have w2 : (0 : Int) ≤ n := by omega
  have w3 : (n : Int) < (n : Int) + 1 := by omega
  have hA := fun w => as_para_no T 118 v w hT
  go_enter Tryz.func103, Tryz.ntmps103
  go_wp2_with fail
  go_quiet (fail)
  go_wp2
  go_ret
  exact ⟨rfl, _, rfl⟩
end Go.Proofs.YtdnlfdppjfjncaaGreatDoor
