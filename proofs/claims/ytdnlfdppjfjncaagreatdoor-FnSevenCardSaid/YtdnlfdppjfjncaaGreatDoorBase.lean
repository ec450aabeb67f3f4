/- Words shared by the walks: a block known whole, and what a call may have changed. -/
import Derived.Test.YtdnlfdppjfjncaaGreatDoorProg
import Derived.WalkKit
import Derived.WalkSpells
import Derived.WalkLawsBesides
import Derived.Deep.QuietTactic
import Derived.BigQuiet
import Derived.Lib.Hide
import Derived.IntWalk
import Derived.Deep.DeepCutAuto
import Derived.Deep.LoopGhost
import Derived.LaidEqlPtr
namespace Go.Proofs.YtdnlfdppjfjncaaGreatDoor
open Go Go.RowKit Go.Proofs

/-- Block b is a row of cells, none of them frozen. -/
def Blk (w : World) (b : Nat) (cs : Array Value) (T : Nat) : Prop := w.heap[b]? = some (.cells cs T (0, 0))

theorem Blk.cell {w : World} {b : Nat} {cs : Array Value} {T : Nat} (h : Blk w b cs T) (i : Nat) : w.cell? ⟨b, i, none⟩ = cs[i]? := by
  unfold Blk at h
  simp [World.cell?, h]

theorem Blk.fr {w : World} {b : Nat} {cs : Array Value} {T : Nat} (h : Blk w b cs T) (i : Nat) : w.frozen? ⟨b, i, none⟩ = false := by
  unfold Blk at h
  simp [World.frozen?, h]

theorem Blk.lt {w : World} {b : Nat} {cs : Array Value} {T : Nat} (h : Blk w b cs T) : b < w.heap.size := by
  unfold Blk at h
  exact (Array.getElem?_eq_some_iff.1 h).1

theorem Blk.ne_of_type {w : World} {b b' : Nat} {cs cs' : Array Value} {T T' : Nat} (h : Blk w b cs T) (h' : Blk w b' cs' T') (hT : T ≠ T') : b ≠ b' := by
  intro e
  subst e
  unfold Blk at h h'
  rw [h] at h'
  cases h'
  exact hT rfl

theorem Blk.set_same {w : World} {b : Nat} {cs : Array Value} {T : Nat} (h : Blk w b cs T) (i : Nat) (v : Value) :
    Blk (w.setCell ⟨b, i, none⟩ v) b (cs.setIfInBounds i v) T := by
  unfold Blk at *
  simp [World.setCell, Array.getElem?_modify, h]

theorem Blk.set_other {w : World} {b : Nat} {cs : Array Value} {T : Nat} (h : Blk w b cs T) {a : Addr} (ha : a.block ≠ b) (v : Value) :
    Blk (w.setCell a v) b cs T := by
  unfold Blk at *
  rw [Below.heap_setCell _ _ _ _ (Ne.symm ha)]
  exact h

theorem Blk.alloc {w : World} {b : Nat} {cs : Array Value} {T : Nat} (h : Blk w b cs T) (o : Obj) : Blk (w.alloc o) b cs T := by
  have hl := h.lt
  unfold Blk at *
  rw [Below.heap_alloc _ _ _ hl]
  exact h

theorem Blk.new {w : World} (cs : Array Value) (T : Nat) : Blk (w.alloc (.cells cs T)) w.heap.size cs T := by
  unfold Blk
  show (w.heap.push _)[w.heap.size]? = _
  simp

theorem Blk.drewN {w : World} {b : Nat} {cs : Array Value} {T : Nat} (h : Blk w b cs T) (n : Nat) : Blk (w.drewN n) b cs T := h
theorem Blk.drew {w : World} {b : Nat} {cs : Array Value} {T : Nat} (h : Blk w b cs T) : Blk w.drew b cs T := h

theorem bs_ne {s : ByteArray} (h : 0 < s.size) : s.toList.isEmpty = false := by
  rw [ByteArray.toList_eq]
  have h2 : 0 < s.data.toList.length := by
    have e : s.data.toList.length = s.size := rfl
    omega
  cases hl : s.data.toList with
  | nil => rw [hl] at h2; exact absurd h2 (Nat.lt_irrefl 0)
  | cons _ _ => rfl

/-- Of what was there, nothing has changed but (perhaps) the blocks of S. -/
structure Mods (S : Nat → Prop) (w w' : World) : Prop where
  os : w'.os = w.os
  tape : w'.tape = w.tape
  output : w'.output = w.output
  size : w.heap.size ≤ w'.heap.size
  block : ∀ k, k < w.heap.size → ¬ S k → w'.heap[k]? = w.heap[k]?

theorem Mods.refl (S : Nat → Prop) (w : World) : Mods S w w := ⟨rfl, rfl, rfl, Nat.le_refl _, fun _ _ _ => rfl⟩
theorem Mods.trans {S : Nat → Prop} {a b c : World} (h : Mods S a b) (k : Mods S b c) : Mods S a c :=
  ⟨k.os.trans h.os, k.tape.trans h.tape, k.output.trans h.output, Nat.le_trans h.size k.size,
   fun i hi hs => (k.block i (Nat.lt_of_lt_of_le hi h.size) hs).trans (h.block i hi hs)⟩
theorem Mods.mono {S S' : Nat → Prop} {w w' : World} (h : Mods S w w') (hs : ∀ k, k < w.heap.size → S k → S' k) : Mods S' w w' :=
  ⟨h.os, h.tape, h.output, h.size, fun k hk hn => h.block k hk (fun x => hn (hs k hk x))⟩
theorem Mods.drew {S : Nat → Prop} {a w : World} (h : Mods S a w) : Mods S a w.drew := ⟨h.os, h.tape, h.output, h.size, h.block⟩
theorem Mods.drewN {S : Nat → Prop} {a w : World} (h : Mods S a w) (n : Nat) : Mods S a (w.drewN n) := ⟨h.os, h.tape, h.output, h.size, h.block⟩
theorem Mods.alloc {S : Nat → Prop} {a w : World} (h : Mods S a w) (o : Obj) : Mods S a (w.alloc o) :=
  h.trans ⟨rfl, rfl, rfl, by simp, fun k hk _ => Below.heap_alloc _ _ _ hk⟩
theorem Mods.setCell {S : Nat → Prop} {a w : World} (h : Mods S a w) {p : Addr} (hp : p.block < a.heap.size → S p.block) (u : Value) : Mods S a (w.setCell p u) :=
  ⟨h.os, h.tape, h.output, by simpa [World.setCell] using h.size, fun k hk hn => by
    rw [Below.heap_setCell _ _ _ _ (by intro e; exact hn (e ▸ hp (e ▸ hk)))]; exact h.block k hk hn⟩
theorem Below.mods {S : Nat → Prop} {w w' : World} {B : Nat} (h : Below B w w') (hS : ∀ k, k < w.heap.size → B ≤ k → S k) : Mods S w w' :=
  ⟨h.os, h.tape, h.output, h.size, fun k hk hn => h.block k (Nat.lt_of_not_le (fun e => hn (hS k hk e)))⟩
theorem Mods.below {S : Nat → Prop} {w w' : World} {B : Nat} (h : Mods S w w') (hB : B ≤ w.heap.size) (hS : ∀ k, k < B → ¬ S k) : Below B w w' :=
  ⟨h.os, h.tape, h.output, h.size, fun k hk => h.block k (by omega) (hS k hk)⟩

theorem Blk.keep {S : Nat → Prop} {w w' : World} {b : Nat} {cs : Array Value} {T : Nat} (h : Blk w b cs T) (hm : Mods S w w') (hS : ¬ S b) : Blk w' b cs T := by
  have hl := h.lt
  unfold Blk at *
  rw [hm.block b hl hS]
  exact h
theorem Blk.keep1 {w w' : World} {b c : Nat} {cs : Array Value} {T : Nat} (h : Blk w b cs T) (hm : Mods (fun k => k = c) w w') (hne : b ≠ c) : Blk w' b cs T := h.keep hm hne
theorem Blk.below {w w' : World} {B b : Nat} {cs : Array Value} {T : Nat} (h : Blk w b cs T) (hm : Below B w w') (hS : b < B) : Blk w' b cs T := by
  unfold Blk at *
  rw [hm.block b hS]
  exact h

/-- Nothing that was there has changed. -/
abbrev Same (w w' : World) : Prop := Mods (fun _ => False) w w'
/-- What a later call changes lies behind what was there at first. -/
theorem Same.then {S : Nat → Prop} {w W w1 : World} (h : Same w W) (k : Mods S W w1) (hS : ∀ b, b < w.heap.size → ¬ S b) : Same w w1 :=
  ⟨k.os.trans h.os, k.tape.trans h.tape, k.output.trans h.output, Nat.le_trans h.size k.size,
   fun i hi _ => (k.block i (Nat.lt_of_lt_of_le hi h.size) (hS i hi)).trans (h.block i hi (fun x => x))⟩
theorem Mods.then {S S' : Nat → Prop} {w W w1 : World} (h : Mods S w W) (k : Mods S' W w1) (hS : ∀ b, b < w.heap.size → S' b → S b) : Mods S w w1 :=
  ⟨k.os.trans h.os, k.tape.trans h.tape, k.output.trans h.output, Nat.le_trans h.size k.size,
   fun i hi hn => (k.block i (Nat.lt_of_lt_of_le hi h.size) (fun x => hn (hS i hi x))).trans (h.block i hi hn)⟩
theorem Same.blk {w w' : World} {b : Nat} {cs : Array Value} {T : Nat} (hm : Same w w') (h : Blk w b cs T) : Blk w' b cs T := h.keep hm (fun x => x)

end Go.Proofs.YtdnlfdppjfjncaaGreatDoor
