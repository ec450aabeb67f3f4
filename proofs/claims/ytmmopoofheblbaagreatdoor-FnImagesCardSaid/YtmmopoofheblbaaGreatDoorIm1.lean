/- Some texts of one proof, put into one file: Base, Line, Line2, Line3, Line4, State. -/
import Derived.Test.YtmmopoofheblbaaGreatDoorProg
import Derived.WalkKit
import Derived.WalkSpells
import Derived.WalkLawsBesides
import Derived.Deep.QuietTactic
import Derived.BigQuiet
import Derived.Lib.Hide
import Derived.IntWalk
import Derived.Deep.DeepCutAuto
import Derived.Deep.LoopGhost
import Derived.LaidEqlPtr
/- Words shared by the walks: a block known whole, and what a call may have changed. -/
namespace Go.Proofs.YtmmopoofheblbaaGreatDoor
open Go Go.RowKit Go.Proofs

/-- Block b is a row of cells, none of them frozen. -/
def Blk (w : World) (b : Nat) (cs : Array Value) (T : Nat) : Prop := w.heap[b]? = some (.cells cs T (0, 0))

theorem Blk.cell {w : World} {b : Nat} {cs : Array Value} {T : Nat} (h : Blk w b cs T) (i : Nat) : w.cell? ⟨b, i, none⟩ = cs[i]? := by
  unfold Blk at h
  simp [World.cell?, h]

theorem Blk.fr {w : World} {b : Nat} {cs : Array Value} {T : Nat} (h : Blk w b cs T) (i : Nat) : w.frozen? ⟨b, i, none⟩ = false := by
  unfold Blk at h
  simp [World.frozen?, h]

theorem Blk.lt {w : World} {b : Nat} {cs : Array Value} {T : Nat} (h : Blk w b cs T) : b < w.heap.size := by
  unfold Blk at h
  exact (Array.getElem?_eq_some_iff.1 h).1

theorem Blk.ne_of_type {w : World} {b b' : Nat} {cs cs' : Array Value} {T T' : Nat} (h : Blk w b cs T) (h' : Blk w b' cs' T') (hT : T ≠ T') : b ≠ b' := by
  intro e
  subst e
  unfold Blk at h h'
  rw [h] at h'
  cases h'
  exact hT rfl

theorem Blk.set_same {w : World} {b : Nat} {cs : Array Value} {T : Nat} (h : Blk w b cs T) (i : Nat) (v : Value) :
    Blk (w.setCell ⟨b, i, none⟩ v) b (cs.setIfInBounds i v) T := by
  unfold Blk at *
  simp [World.setCell, Array.getElem?_modify, h]

theorem Blk.set_other {w : World} {b : Nat} {cs : Array Value} {T : Nat} (h : Blk w b cs T) {a : Addr} (ha : a.block ≠ b) (v : Value) :
    Blk (w.setCell a v) b cs T := by
  unfold Blk at *
  rw [Below.heap_setCell _ _ _ _ (Ne.symm ha)]
  exact h

theorem Blk.alloc {w : World} {b : Nat} {cs : Array Value} {T : Nat} (h : Blk w b cs T) (o : Obj) : Blk (w.alloc o) b cs T := by
  have hl := h.lt
  unfold Blk at *
  rw [Below.heap_alloc _ _ _ hl]
  exact h

theorem Blk.new {w : World} (cs : Array Value) (T : Nat) : Blk (w.alloc (.cells cs T)) w.heap.size cs T := by
  unfold Blk
  show (w.heap.push _)[w.heap.size]? = _
  simp

theorem Blk.drewN {w : World} {b : Nat} {cs : Array Value} {T : Nat} (h : Blk w b cs T) (n : Nat) : Blk (w.drewN n) b cs T := h
theorem Blk.drew {w : World} {b : Nat} {cs : Array Value} {T : Nat} (h : Blk w b cs T) : Blk w.drew b cs T := h

theorem bs_ne {s : ByteArray} (h : 0 < s.size) : s.toList.isEmpty = false := by
  rw [ByteArray.toList_eq]
  have h2 : 0 < s.data.toList.length := by
    have e : s.data.toList.length = s.size := rfl
    omega
  cases hl : s.data.toList with
  | nil => rw [hl] at h2; exact absurd h2 (Nat.lt_irrefl 0)
  | cons _ _ => rfl

/-- Of what was there, nothing has changed but (perhaps) the blocks of S. -/
structure Mods (S : Nat → Prop) (w w' : World) : Prop where
  os : w'.os = w.os
  tape : w'.tape = w.tape
  output : w'.output = w.output
  size : w.heap.size ≤ w'.heap.size
  block : ∀ k, k < w.heap.size → ¬ S k → w'.heap[k]? = w.heap[k]?

theorem Mods.refl (S : Nat → Prop) (w : World) : Mods S w w := ⟨rfl, rfl, rfl, Nat.le_refl _, fun _ _ _ => rfl⟩
theorem Mods.trans {S : Nat → Prop} {a b c : World} (h : Mods S a b) (k : Mods S b c) : Mods S a c :=
  ⟨k.os.trans h.os, k.tape.trans h.tape, k.output.trans h.output, Nat.le_trans h.size k.size,
   fun i hi hs => (k.block i (Nat.lt_of_lt_of_le hi h.size) hs).trans (h.block i hi hs)⟩
theorem Mods.mono {S S' : Nat → Prop} {w w' : World} (h : Mods S w w') (hs : ∀ k, k < w.heap.size → S k → S' k) : Mods S' w w' :=
  ⟨h.os, h.tape, h.output, h.size, fun k hk hn => h.block k hk (fun x => hn (hs k hk x))⟩
theorem Mods.drew {S : Nat → Prop} {a w : World} (h : Mods S a w) : Mods S a w.drew := ⟨h.os, h.tape, h.output, h.size, h.block⟩
theorem Mods.drewN {S : Nat → Prop} {a w : World} (h : Mods S a w) (n : Nat) : Mods S a (w.drewN n) := ⟨h.os, h.tape, h.output, h.size, h.block⟩
theorem Mods.alloc {S : Nat → Prop} {a w : World} (h : Mods S a w) (o : Obj) : Mods S a (w.alloc o) :=
  h.trans ⟨rfl, rfl, rfl, by simp, fun k hk _ => Below.heap_alloc _ _ _ hk⟩
theorem Mods.setCell {S : Nat → Prop} {a w : World} (h : Mods S a w) {p : Addr} (hp : p.block < a.heap.size → S p.block) (u : Value) : Mods S a (w.setCell p u) :=
  ⟨h.os, h.tape, h.output, by simpa [World.setCell] using h.size, fun k hk hn => by
    rw [Below.heap_setCell _ _ _ _ (by intro e; exact hn (e ▸ hp (e ▸ hk)))]; exact h.block k hk hn⟩
theorem Below.mods {S : Nat → Prop} {w w' : World} {B : Nat} (h : Below B w w') (hS : ∀ k, k < w.heap.size → B ≤ k → S k) : Mods S w w' :=
  ⟨h.os, h.tape, h.output, h.size, fun k hk hn => h.block k (Nat.lt_of_not_le (fun e => hn (hS k hk e)))⟩
theorem Mods.below {S : Nat → Prop} {w w' : World} {B : Nat} (h : Mods S w w') (hB : B ≤ w.heap.size) (hS : ∀ k, k < B → ¬ S k) : Below B w w' :=
  ⟨h.os, h.tape, h.output, h.size, fun k hk => h.block k (by omega) (hS k hk)⟩

theorem Blk.keep {S : Nat → Prop} {w w' : World} {b : Nat} {cs : Array Value} {T : Nat} (h : Blk w b cs T) (hm : Mods S w w') (hS : ¬ S b) : Blk w' b cs T := by
  have hl := h.lt
  unfold Blk at *
  rw [hm.block b hl hS]
  exact h
theorem Blk.keep1 {w w' : World} {b c : Nat} {cs : Array Value} {T : Nat} (h : Blk w b cs T) (hm : Mods (fun k => k = c) w w') (hne : b ≠ c) : Blk w' b cs T := h.keep hm hne
theorem Blk.below {w w' : World} {B b : Nat} {cs : Array Value} {T : Nat} (h : Blk w b cs T) (hm : Below B w w') (hS : b < B) : Blk w' b cs T := by
  unfold Blk at *
  rw [hm.block b hS]
  exact h

/-- Nothing that was there has changed. -/
abbrev Same (w w' : World) : Prop := Mods (fun _ => False) w w'
/-- What a later call changes lies behind what was there at first. -/
theorem Same.then {S : Nat → Prop} {w W w1 : World} (h : Same w W) (k : Mods S W w1) (hS : ∀ b, b < w.heap.size → ¬ S b) : Same w w1 :=
  ⟨k.os.trans h.os, k.tape.trans h.tape, k.output.trans h.output, Nat.le_trans h.size k.size,
   fun i hi _ => (k.block i (Nat.lt_of_lt_of_le hi h.size) (hS i hi)).trans (h.block i hi (fun x => x))⟩
theorem Mods.then {S S' : Nat → Prop} {w W w1 : World} (h : Mods S w W) (k : Mods S' W w1) (hS : ∀ b, b < w.heap.size → S' b → S b) : Mods S w w1 :=
  ⟨k.os.trans h.os, k.tape.trans h.tape, k.output.trans h.output, Nat.le_trans h.size k.size,
   fun i hi hn => (k.block i (Nat.lt_of_lt_of_le hi h.size) (fun x => hn (hS i hi x))).trans (h.block i hi hn)⟩
theorem Same.blk {w w' : World} {b : Nat} {cs : Array Value} {T : Nat} (hm : Same w w') (h : Blk w b cs T) : Blk w' b cs T := h.keep hm (fun x => x)

end Go.Proofs.YtmmopoofheblbaaGreatDoor

/- The small functions on lines, walked: what each answers for a line without tabs. -/
namespace Go.Proofs.YtmmopoofheblbaaGreatDoor
open Go Go.RowKit Go.Proofs

/-- How many spaces stand from place i on, at most m. -/
def lead (s : ByteArray) (i : Nat) : Nat → Nat
  | 0 => 0
  | m + 1 => if h : i < s.size then (if s[i] = 32 then lead s (i + 1) m + 1 else 0) else 0

theorem lead_le (s : ByteArray) : ∀ (m i : Nat), lead s i m ≤ m ∧ (i ≤ s.size → i + lead s i m ≤ s.size)
  | 0, i => by simp [lead]
  | m + 1, i => by
    have h := lead_le s m (i + 1)
    unfold lead
    split
    · split <;> constructor <;> omega
    · simp

theorem lead_step (s : ByteArray) : ∀ (m i : Nat), lead s i m = m →
    lead s i (m + 1) = if h : i + m < s.size then (if s[i + m] = 32 then m + 1 else m) else m
  | 0, i => by intro _; simp [lead]
  | m + 1, i => by
    intro hm
    have e : lead s i (m + 1 + 1) = if h : i < s.size then (if s[i] = 32 then lead s (i + 1) (m + 1) + 1 else 0) else 0 := rfl
    have e1 : lead s i (m + 1) = if h : i < s.size then (if s[i] = 32 then lead s (i + 1) m + 1 else 0) else 0 := rfl
    rw [e]; rw [e1] at hm
    by_cases h : i < s.size
    · by_cases h2 : s[i] = 32
      · simp only [h, h2, dite_true, if_true] at hm ⊢
        have hm' : lead s (i + 1) m = m := by omega
        rw [lead_step s m (i + 1) hm']
        have ee : i + 1 + m = i + (m + 1) := by omega
        simp only [ee]
        split
        · split <;> rfl
        · rfl
      · simp [h, h2] at hm
    · simp [h] at hm

theorem lead_stop (s : ByteArray) : ∀ (m i n : Nat), lead s i m = m → (∀ h : i + m < s.size, s[i + m] ≠ 32) → lead s i (m + n) = m
  | 0, i, 0 => by intro _ _; rfl
  | 0, i, n + 1 => by
    intro _ h
    have e : lead s i (0 + (n + 1)) = if h : i < s.size then (if s[i] = 32 then lead s (i + 1) n + 1 else 0) else 0 := by
      rw [Nat.zero_add]; rfl
    rw [e]
    split
    · rw [if_neg]; exact h _
    · rfl
  | m + 1, i, n => by
    intro hm h
    have e1 : lead s i (m + 1) = if h : i < s.size then (if s[i] = 32 then lead s (i + 1) m + 1 else 0) else 0 := rfl
    have e : lead s i (m + 1 + n) = if h : i < s.size then (if s[i] = 32 then lead s (i + 1) (m + n) + 1 else 0) else 0 := by
      rw [show m + 1 + n = (m + n) + 1 by omega]; rfl
    rw [e]; rw [e1] at hm
    by_cases h1 : i < s.size
    · by_cases h2 : s[i] = 32
      · simp only [h1, h2, dite_true, if_true] at hm ⊢
        rw [lead_stop s m (i + 1) n (by omega)]
        intro h3
        have := h (by omega)
        simpa [show i + 1 + m = i + (m + 1) by omega] using this
      · simp [h1, h2] at hm
    · simp [h1] at hm

def lineCells (i : Nat) (text : ByteArray) (nl : Int) : Array Value :=
  #[.int .i64 0, .int .i64 i, .int .i64 0, .string text, .int .u8 nl]

/-- Block b is a line, read up to place i. -/
def LineAt (w : World) (b i : Nat) (text : ByteArray) (nl : Int) : Prop := Blk w b (lineCells i text nl) 177

theorem LineAt.facts {w : World} {b i : Nat} {text : ByteArray} {nl : Int} (h : LineAt w b i text nl) :
    w.cell? ⟨b, 0, none⟩ = some (.int .i64 0) ∧ w.cell? ⟨b, 1, none⟩ = some (.int .i64 i) ∧ w.cell? ⟨b, 2, none⟩ = some (.int .i64 0) ∧
    w.cell? ⟨b, 3, none⟩ = some (.string text) ∧ w.cell? ⟨b, 4, none⟩ = some (.int .u8 nl) ∧
    w.frozen? ⟨b, 0, none⟩ = false ∧ w.frozen? ⟨b, 1, none⟩ = false ∧ w.frozen? ⟨b, 2, none⟩ = false ∧ w.frozen? ⟨b, 3, none⟩ = false ∧ w.frozen? ⟨b, 4, none⟩ = false ∧
    b < w.heap.size :=
  ⟨Blk.cell h 0, Blk.cell h 1, Blk.cell h 2, Blk.cell h 3, Blk.cell h 4, Blk.fr h 0, Blk.fr h 1, Blk.fr h 2, Blk.fr h 3, Blk.fr h 4, Blk.lt h⟩

/-- A text of a size that every text of the statements has, without tabs. -/
structure Txt (text : ByteArray) : Prop where
  size : text.size ≤ 1000000
  tab : ∀ j (h : j < text.size), text[j] ≠ 9

/-- What trimSpace answers. -/
def trimOk (text : ByteArray) (i mn mx : Nat) (eol : Bool) : Bool :=
  decide (mn ≤ lead text i mx) || (eol && decide (text.size ≤ i + lead text i mx))

def TW (w : World) (text : ByteArray) (nl : Int) (i : Nat) : World :=
  w.alloc (.cells #[.int .i64 0, .int .i64 i, .int .i64 0, .string text, .int .u8 nl] 177)

def TrimPost (w : World) (b i : Nat) (text : ByteArray) (nl : Int) (mn mx : Nat) (eol : Bool) (e : Ending) (w' : World) : Prop :=
  e = .returned (.bool (trimOk text i mn mx eol)) ∧ Mods (· = b) w w' ∧
    LineAt w' b (if trimOk text i mn mx eol then i + lead text i mx else i) text nl

theorem TrimPost.yes {w : World} {b i : Nat} {text : ByteArray} {nl : Int} {mn mx : Nat} {eol : Bool} {w' : World} (h : trimOk text i mn mx eol = true)
    (hm : Mods (· = b) w w') (hl : LineAt w' b (i + lead text i mx) text nl) : TrimPost w b i text nl mn mx eol (.returned (.bool true)) w' := by
  refine ⟨by rw [h], hm, ?_⟩
  rw [h]; exact hl
theorem TrimPost.no {w : World} {b i : Nat} {text : ByteArray} {nl : Int} {mn mx : Nat} {eol : Bool} {w' : World} (h : trimOk text i mn mx eol = false)
    (hm : Mods (· = b) w w') (hl : LineAt w' b i text nl) : TrimPost w b i text nl mn mx eol (.returned (.bool false)) w' := by
  refine ⟨by rw [h], hm, ?_⟩
  rw [h]; exact hl

theorem line_put {w : World} {b i : Nat} {text : ByteArray} {nl : Int} (hL : LineAt w b i text nl) (i' : Nat) (j : Int) (hj : j = (i' : Int)) (o : Obj) :
    Mods (· = b) w ((((((w.setCell ⟨b, 0, none⟩ (.int .i64 0)).setCell ⟨b, 1, none⟩ (.int .i64 j)).setCell ⟨b, 2, none⟩ (.int .i64 0)).setCell ⟨b, 3, none⟩ (.string text)).setCell ⟨b, 4, none⟩ (.int .u8 nl)).alloc o) ∧
    LineAt ((((((w.setCell ⟨b, 0, none⟩ (.int .i64 0)).setCell ⟨b, 1, none⟩ (.int .i64 j)).setCell ⟨b, 2, none⟩ (.int .i64 0)).setCell ⟨b, 3, none⟩ (.string text)).setCell ⟨b, 4, none⟩ (.int .u8 nl)).alloc o) b i' text nl := by
  subst hj
  constructor
  · exact ((((((Mods.refl (fun k => k = b) w).setCell (p := ⟨b, 0, none⟩) (fun _ => rfl) _).setCell (p := ⟨b, 1, none⟩) (fun _ => rfl) _).setCell (p := ⟨b, 2, none⟩) (fun _ => rfl) _).setCell (p := ⟨b, 3, none⟩) (fun _ => rfl) _).setCell (p := ⟨b, 4, none⟩) (fun _ => rfl) _).alloc _
  · exact Blk.alloc (((((Blk.set_same hL 0 _).set_same 1 _).set_same 2 _).set_same 3 _).set_same 4 _) _

theorem ne32 {c : UInt8} (h : c ≠ 32) : (c.toNat : Int) ≠ 32 := fun e => h (UInt8.toNat_inj.1 (by show _ = 32; omega))
theorem ne9 {c : UInt8} (h : c ≠ 9) : (c.toNat : Int) ≠ 9 := fun e => h (UInt8.toNat_inj.1 (by show _ = 9; omega))

set_option maxHeartbeats 1000000 in
theorem trimSpace_any (b : Nat) (text : ByteArray) (i mn mx : Nat) (eol : Bool) (nl : Int) (w : World) (hmn : mn ≤ mx) (hmx : mx ≤ 4) (hi : i ≤ text.size) (ht : Txt text)
   (hL : LineAt w b i text nl) :
    Calls Tryz.prog 231 #[.pointer (some ⟨b, 0, none⟩), .int .i64 mn, .int .i64 mx, .bool eol] w (TrimPost w b i text nl mn mx eol) := by
  obtain ⟨h0, h1, h2, h3, h4, hf0, hf1, hf2, hf3, hf4, hbl⟩ := hL.facts
  have HT := Lib.hid ht.tab
  have hs := ht.size
  clear ht
  go_enter Tryz.func231, Tryz.ntmps231
  go_wp2
  go_loopw [10] (fun n wr => ∃ k m : Nat, n = .int .i64 k ∧ k ≤ mx ∧ lead text i m = m ∧ m ≤ k ∧ (m = k ∨ (text.size ≤ i + m ∧ eol = true)) ∧
      wr = TW w text nl (i + m)) (fun n _ => mx - (intOf n).toNat)
  case atStart => exact ⟨0, 0, rfl, Nat.zero_le _, rfl, Nat.le_refl _, Or.inl rfl, rfl⟩
  case round =>
    obtain ⟨k, m, rfl, hk, hm, hmk, hor, rfl⟩ := hrel
    have hB := (lead_le text m i).2 hi
    rw [hm] at hB
    have HO := Lib.hid hor
    have HST := Lib.hid (lead_step text m i hm)
    have HSP := Lib.hid (fun n => lead_stop text m i n hm)
    have HM := Lib.hid hm
    clear hor hm
    unfold TW
    by_cases hn : k < mx
    · by_cases hend : i + m < text.size
      · have htb := HT.out (i + m) hend
        have hkm : m = k := by have := HO.out; omega
        subst hkm
        by_cases hsp : text[i + m] = 32
        · have E1 : Hid (lead text i (m + 1) = m + 1) := by
            have := HST.out; rw [dif_pos hend, if_pos hsp] at this; exact this
          go_wp2
          go_roundw
          case rel => exact ⟨m + 1, m + 1, by go_num, by omega, E1.out, Nat.le_refl _, Or.inl rfl, by go_num⟩
          case measure => simp [intOf]; omega
        · have E1 : Hid (lead text i mx = m) := by
            have := HSP.out (mx - m) (fun _ => hsp)
            rwa [show m + (mx - m) = mx by omega] at this
          have hsp' := ne32 hsp
          have htb' := ne9 htb
          clear hsp htb
          by_cases hmin : mn ≤ m
          · have HY : Hid (trimOk text i mn mx eol = true) := by show trimOk _ _ _ _ _ = true; simp [trimOk, E1.out, hmin]
            go_wp2
            go_ret
            exact TrimPost.yes HY.out (line_put hL (i + m) _ (by go_num) _).1 (by rw [E1.out]; exact (line_put hL (i + m) _ (by go_num) _).2)
          · have HY : Hid (trimOk text i mn mx eol = false) := by show trimOk _ _ _ _ _ = false; simp [trimOk, E1.out, hmin]; intro _; omega
            go_wp2
            go_ret
            exact TrimPost.no HY.out ((Mods.refl _ w).alloc _) (Blk.alloc hL _)
      · have hA : ∀ n, lead text i (m + n) = m := fun n => HSP.out n (fun h => absurd h hend)
        have E1 : Hid (lead text i mx = m) := by
          have := hA (mx - m); rwa [show m + (mx - m) = mx by omega] at this
        clear hA
        cases eol
        · have hkm : m = k := by have := HO.out; simpa using this
          subst hkm
          by_cases hmin : mn ≤ m
          · have HY : Hid (trimOk text i mn mx false = true) := by show trimOk _ _ _ _ _ = true; simp [trimOk, E1.out, hmin]
            go_wp2
            go_ret
            exact TrimPost.yes HY.out (line_put hL (i + m) _ (by go_num) _).1 (by rw [E1.out]; exact (line_put hL (i + m) _ (by go_num) _).2)
          · have HY : Hid (trimOk text i mn mx false = false) := by show trimOk _ _ _ _ _ = false; simp [trimOk, E1.out, hmin]
            go_wp2
            go_ret
            exact TrimPost.no HY.out ((Mods.refl _ w).alloc _) (Blk.alloc hL _)
        · have hsz : text.size ≤ i + m := by omega
          go_wp2
          go_roundw
          case rel => exact ⟨k + 1, m, by go_num, by omega, HM.out, by omega, Or.inr ⟨hsz, trivial⟩, rfl⟩
          case measure => simp [intOf]; omega
    · have hkm : k = mx := by omega
      have e1 : lead text i mx = m := by
        rcases HO.out with h | h
        · rw [← hkm, ← h]; exact HM.out
        · have := HSP.out (mx - m) (fun h' => absurd h' (by omega))
          rwa [show m + (mx - m) = mx by omega] at this
      have hok : trimOk text i mn mx eol = true := by
        rcases HO.out with h | h
        · simp [trimOk, e1]; left; omega
        · simp [trimOk, e1]; right; exact ⟨h.2, h.1⟩
      have E1 := Lib.hid e1
      have HK := Lib.hid hok
      clear e1 hok
      go_wp2
      go_ret
      exact TrimPost.yes HK.out (line_put hL (i + m) _ (by go_num) _).1 (by rw [E1.out]; exact (line_put hL (i + m) _ (by go_num) _).2)
end Go.Proofs.YtmmopoofheblbaaGreatDoor

/- Further small functions on lines, walked. -/
namespace Go.Proofs.YtmmopoofheblbaaGreatDoor
open Go Go.RowKit Go.Proofs

/-- A byte that is a space or a tab. -/
def isW (c : UInt8) : Bool := c == 32 || c == 9

theorem isW_yes {c : UInt8} (h : isW c = true) (h9 : c ≠ 9) : (c.toNat : Int) = 32 := by
  simp [isW] at h
  rcases h with h | h
  · subst h; rfl
  · exact absurd h h9
theorem isW_no {c : UInt8} (h : isW c = false) : ((c.toNat : Int) == 32) = false ∧ ((c.toNat : Int) == 9) = false := by
  simp [isW] at h
  exact ⟨beq_eq_false_iff_ne.2 (ne32 h.1), beq_eq_false_iff_ne.2 (ne9 h.2)⟩

/-- The first place from i on where no white space stands. -/
def ws (s : ByteArray) (i : Nat) : Nat := if h : i < s.size then (if isW s[i] then ws s (i + 1) else i) else i
termination_by s.size - i

theorem ws_le (s : ByteArray) (i : Nat) (hi : i ≤ s.size) : i ≤ ws s i ∧ ws s i ≤ s.size := by
  rw [ws]
  split
  · split
    · have := ws_le s (i + 1) (by omega); omega
    · omega
  · omega
termination_by s.size - i

/-- The place behind the last byte that is no white space, up to j. -/
def wsr (s : ByteArray) : Nat → Nat
  | 0 => 0
  | j + 1 => if h : j < s.size then (if isW s[j] then wsr s j else j + 1) else j + 1

theorem wsr_le (s : ByteArray) : ∀ j, wsr s j ≤ j
  | 0 => Nat.le_refl _
  | j + 1 => by
    unfold wsr
    split
    · split
      · have := wsr_le s j; omega
      · omega
    · omega

def trimL (s : ByteArray) : ByteArray := s.extract (ws s 0) s.size
def trimR (s : ByteArray) : ByteArray := s.extract 0 (wsr s s.size)

set_option maxHeartbeats 1000000 in
theorem trimLeft_any (s : ByteArray) (w : World) (hs : s.size ≤ 1000000) :
    Calls Tryz.prog 163 #[.string s] w fun e w' => e = .returned (.string (trimL s)) ∧ w = w' := by
  go_enter Tryz.func163, Tryz.ntmps163
  go_wp2
  go_loop [3] (fun i => ∃ k : Nat, i = .int .i64 k ∧ k ≤ s.size ∧ ws s k = ws s 0) (fun i => s.size - (intOf i).toNat)
  case atStart => exact ⟨0, rfl, Nat.zero_le _, rfl⟩
  case round =>
    obtain ⟨k, rfl, hk, hw⟩ := hrel
    have HW := Lib.hid hw
    clear hw
    by_cases hlt : k < s.size
    · have hun : ws s k = if isW s[k] then ws s (k + 1) else k := by rw [ws, dif_pos hlt]
      by_cases hc : isW s[k] = true
      · have HN : Hid (ws s (k + 1) = ws s 0) := by show ws s (k + 1) = ws s 0; rw [← HW.out, hun, if_pos hc]
        have hd : (s[k].toNat : Int) = 32 ∨ (s[k].toNat : Int) = 9 := by
          simp [isW] at hc
          rcases hc with h | h <;> rw [h] <;> decide
        clear hun hc
        rcases hd with hd | hd
        all_goals
          go_wp2
          go_round
          case rel => exact ⟨k + 1, by go_num, by omega, HN.out⟩
          case measure => simp [intOf]; omega
      · obtain ⟨hc1, hc2⟩ := isW_no (by simpa using hc)
        have HN : Hid (ws s 0 = k) := by show ws s 0 = k; rw [← HW.out, hun, if_neg hc]
        clear hun hc
        go_wp2
        go_ret
        exact ⟨by unfold trimL; rw [HN.out]; rfl, rfl⟩
    · have HN : Hid (ws s 0 = k) := by show ws s 0 = k; rw [← HW.out, ws, dif_neg hlt]
      go_wp2
      go_ret
      exact ⟨by unfold trimL; rw [HN.out]; rfl, rfl⟩

set_option maxHeartbeats 1000000 in
theorem trim_no (b i : Nat) (text : ByteArray) (c : Int) (nl : Int) (w : World) (hi : i ≤ text.size) (hL : LineAt w b i text nl)
    (hne : ∀ h : i < text.size, (text[i].toNat : Int) ≠ c) :
    Calls Tryz.prog 252 #[.pointer (some ⟨b, 0, none⟩), .int .u8 c] w fun e w' => e = .returned (.bool false) ∧ ∃ n, w' = w.drewN n := by
  obtain ⟨h0, h1, h2, h3, h4, hf0, hf1, hf2, hf3, hf4, hbl⟩ := hL.facts
  by_cases hend : i < text.size
  · have hcc := hne hend
    have hlt : (i : Int) < (text.size : Int) := by omega
    clear hne
    go_enter Tryz.func252, Tryz.ntmps252
    go_wp2_with fail
    go_quiet (fail)
    go_wp2
    go_ret
    exact ⟨rfl, _, rfl⟩
  · have hd : decide ((i : Int) < (text.size : Int)) = false := by simp; omega
    clear hne
    go_enter Tryz.func252, Tryz.ntmps252
    go_wp2_with fail
    go_quiet (fail)
    go_wp2
    go_ret
    exact ⟨rfl, _, rfl⟩

set_option maxHeartbeats 1000000 in
theorem trim_yes (b i : Nat) (text : ByteArray) (c : Int) (nl : Int) (w : World) (hs : text.size ≤ 1000000) (hL : LineAt w b i text nl)
    (hend : i < text.size) (heq : (text[i].toNat : Int) = c) :
    Calls Tryz.prog 252 #[.pointer (some ⟨b, 0, none⟩), .int .u8 c] w fun e w' => e = .returned (.bool true) ∧ Mods (· = b) w w' ∧ LineAt w' b (i + 1) text nl := by
  obtain ⟨h0, h1, h2, h3, h4, hf0, hf1, hf2, hf3, hf4, hbl⟩ := hL.facts
  have hlt : (i : Int) < (text.size : Int) := by omega
  go_enter Tryz.func252, Tryz.ntmps252
  go_wp2_with fail
  go_quiet (fail)
  go_wp2
  go_ret
  refine ⟨rfl, ?_, ?_⟩
  · exact ((Mods.refl (fun k => k = b) w).setCell (p := ⟨b, 1, none⟩) (fun _ => rfl) _).drewN _
  · exact Blk.drewN (Blk.set_same hL 1 _) _

/-- The byte at a place, 0 behind the end. -/
def at0 (s : ByteArray) (i : Nat) : UInt8 := if h : i < s.size then s[i] else 0

set_option maxHeartbeats 1000000 in
theorem peek_any (b i : Nat) (text : ByteArray) (nl : Int) (w : World) (_hs : text.size ≤ 1000000) (hL : LineAt w b i text nl) :
    Calls Tryz.prog 254 #[.pointer (some ⟨b, 0, none⟩)] w fun e w' => e = .returned (.int .u8 (at0 text i).toNat) ∧ ∃ n, w' = w.drewN n := by
  obtain ⟨h0, h1, h2, h3, h4, hf0, hf1, hf2, hf3, hf4, hbl⟩ := hL.facts
  by_cases hend : i < text.size
  · have hlt : (i : Int) < (text.size : Int) := by omega
    have HV : Hid (at0 text i = text[i]) := by show at0 text i = _; simp [at0, hend]
    go_enter Tryz.func254, Tryz.ntmps254
    go_wp2_with fail
    go_quiet (fail)
    go_wp2_with fail
    go_quiet (fail)
    go_wp2
    go_ret
    exact ⟨by rw [HV.out]; rfl, _, World.drewN_drewN _ _ _⟩
  · have HV : Hid (at0 text i = 0) := by show at0 text i = _; simp [at0, hend]
    go_enter Tryz.func254, Tryz.ntmps254
    go_wp2_with fail
    go_quiet (fail)
    go_wp2
    go_ret
    exact ⟨by rw [HV.out]; rfl, _, rfl⟩

set_option maxHeartbeats 1000000 in
theorem isBlank_any (b i : Nat) (text : ByteArray) (nl : Int) (w : World) (hs : text.size ≤ 1000000) (hi : i ≤ text.size) (hL : LineAt w b i text nl) :
    Calls Tryz.prog 120 #[.pointer (some ⟨b, 0, none⟩)] w fun e w' => e = .returned (.bool (trimL (text.extract i text.size)).toList.isEmpty) ∧ ∃ n, w' = w.drewN n := by
  obtain ⟨h0, h1, h2, h3, h4, hf0, hf1, hf2, hf3, hf4, hbl⟩ := hL.facts
  have hz : (text.extract i text.size).size ≤ 1000000 := by simp; omega
  go_enter Tryz.func120, Tryz.ntmps120
  go_wp2
  go_quiet ((go_at_call 163; exact Calls.quiet_of_same ((trimLeft_any _ _ hz).mono (fun _ _ h => ⟨h.1, h.2.symm⟩))))
  go_wp2
  go_ret
  exact ⟨rfl, _, rfl⟩

set_option maxHeartbeats 1000000 in
theorem lineString_any (b i : Nat) (text : ByteArray) (nl : Int) (w : World) (_hs : text.size ≤ 1000000) (hi : i ≤ text.size) (hL : LineAt w b i text nl) :
    Calls Tryz.prog 215 #[.pointer (some ⟨b, 0, none⟩)] w fun e w' => e = .returned (.string (text.extract i text.size)) ∧ ∃ n, w' = w.drewN n := by
  obtain ⟨h0, h1, h2, h3, h4, hf0, hf1, hf2, hf3, hf4, hbl⟩ := hL.facts
  go_enter Tryz.func215, Tryz.ntmps215
  go_wp2_with fail
  go_quiet (fail)
  go_wp2
  go_ret
  exact ⟨rfl, _, rfl⟩

set_option maxHeartbeats 1000000 in
theorem trimSpaceString_any (b i : Nat) (text : ByteArray) (nl : Int) (w : World) (hs : text.size ≤ 1000000) (hi : i ≤ text.size) (hL : LineAt w b i text nl) :
    Calls Tryz.prog 173 #[.pointer (some ⟨b, 0, none⟩)] w fun e w' => e = .returned (.string (trimL (text.extract i text.size))) ∧ ∃ n, w' = w.drewN n := by
  obtain ⟨h0, h1, h2, h3, h4, hf0, hf1, hf2, hf3, hf4, hbl⟩ := hL.facts
  have hz : (text.extract i text.size).size ≤ 1000000 := by simp; omega
  go_enter Tryz.func173, Tryz.ntmps173
  go_wp2_with fail
  go_quiet ((go_at_call 163; exact Calls.quiet_of_same ((trimLeft_any _ _ hz).mono (fun _ _ h => ⟨h.1, h.2.symm⟩))))
  go_wp2
  go_ret
  exact ⟨rfl, _, rfl⟩
end Go.Proofs.YtmmopoofheblbaaGreatDoor

/- Lines handed on by value: trimQuote and newQuote where the line begins with no >. -/
namespace Go.Proofs.YtmmopoofheblbaaGreatDoor
open Go Go.RowKit Go.Proofs

theorem Blk.newAt {w : World} {n : Nat} (cs : Array Value) (T : Nat) (h : n = w.heap.size) : Blk (w.alloc (.cells cs T)) n cs T := by
  subst h
  exact Blk.new cs T

/-- The place of the first byte behind up to three spaces, and the byte there. -/
def p3 (text : ByteArray) (i : Nat) : Nat := i + lead text i 3

theorem p3_le {text : ByteArray} {i : Nat} (hi : i ≤ text.size) : i ≤ p3 text i ∧ p3 text i ≤ text.size := by
  have := (lead_le text 3 i).2 hi
  unfold p3
  omega

theorem trimSpace_03 (b : Nat) (text : ByteArray) (i : Nat) (nl : Int) (w : World) (hi : i ≤ text.size) (ht : Txt text) (hL : LineAt w b i text nl) :
    Calls Tryz.prog 231 #[.pointer (some ⟨b, 0, none⟩), .int .i64 0, .int .i64 3, .bool false] w
      fun e w' => e = .returned (.bool true) ∧ Mods (fun k => k = b) w w' ∧ LineAt w' b (p3 text i) text nl :=
  (trimSpace_any b text i 0 3 false nl w (by omega) (by omega) hi ht hL).mono fun e w' ⟨he, hm, hl⟩ => by
    have : trimOk text i 0 3 false = true := by simp [trimOk]
    rw [this] at he hl
    exact ⟨he, hm, hl⟩

/-- One space taken away. -/
theorem trimSpace_11 (b : Nat) (text : ByteArray) (i : Nat) (eol : Bool) (nl : Int) (w : World) (hi : i ≤ text.size) (ht : Txt text) (hL : LineAt w b i text nl) :
    Calls Tryz.prog 231 #[.pointer (some ⟨b, 0, none⟩), .int .i64 1, .int .i64 1, .bool eol] w
      fun e w' => (at0 text i = 32 ∧ e = .returned (.bool true) ∧ Mods (fun k => k = b) w w' ∧ LineAt w' b (i + 1) text nl) ∨
        (at0 text i ≠ 32 ∧ e = .returned (.bool (eol && decide (text.size ≤ i))) ∧ Mods (fun k => k = b) w w' ∧ LineAt w' b i text nl) :=
  (trimSpace_any b text i 1 1 eol nl w (by omega) (by omega) hi ht hL).mono fun e w' ⟨he, hm, hl⟩ => by
    by_cases h : i < text.size
    · by_cases h2 : text[i] = 32
      · have e1 : lead text i 1 = 1 := by simp [lead, h, h2]
        have : trimOk text i 1 1 eol = true := by simp [trimOk, e1]
        rw [this] at he hl
        left
        refine ⟨by simp [at0, h, h2], he, hm, ?_⟩
        rw [e1] at hl
        exact hl
      · have e1 : lead text i 1 = 0 := by simp [lead, h2]
        have : trimOk text i 1 1 eol = false := by simp [trimOk, e1]; intro _; omega
        rw [this] at he hl
        right
        refine ⟨by simp [at0, h, h2], ?_, hm, ?_⟩
        · rw [he]; have : ¬ text.size ≤ i := by omega
          simp [this]
        · exact hl
    · have e1 : lead text i 1 = 0 := by simp [lead, h]
      have : trimOk text i 1 1 eol = eol := by
        have : text.size ≤ i := by omega
        simp [trimOk, e1, this]
      rw [this] at he hl
      right
      refine ⟨by simp [at0, h], ?_, hm, ?_⟩
      · rw [he]; have : text.size ≤ i := by omega
        simp [this]
      · rw [e1] at hl
        cases eol <;> exact hl

abbrev LV (i : Nat) (text : ByteArray) (nl : Int) : Value := .agg #[.int .i64 0, .int .i64 i, .int .i64 0, .string text, .int .u8 nl]

theorem lead_small (s : ByteArray) : ∀ (M i : Nat), lead s i M < M → ∀ n, lead s i (M + n) = lead s i M
  | 0, _, h, _ => absurd h (by simp)
  | M + 1, i, h, n => by
    have e : lead s i (M + 1 + n) = if h : i < s.size then (if s[i] = 32 then lead s (i + 1) (M + n) + 1 else 0) else 0 := by
      rw [show M + 1 + n = (M + n) + 1 by omega]; rfl
    have e1 : lead s i (M + 1) = if h : i < s.size then (if s[i] = 32 then lead s (i + 1) M + 1 else 0) else 0 := rfl
    rw [e, e1]
    rw [e1] at h
    split
    · rename_i h1
      split
      · rename_i h2
        rw [dif_pos h1, if_pos h2] at h
        rw [lead_small s M (i + 1) (by omega) n]
      · rfl
    · rfl

/-- Where no space stands behind up to three spaces, there are not four. -/
theorem lead4_lt {text : ByteArray} {i : Nat} (hc : at0 text (p3 text i) ≠ 32) : lead text i 4 < 4 := by
  have h3 := (lead_le text 3 i).1
  rcases Nat.lt_or_ge (lead text i 3) 3 with h | h
  · have h5 : lead text i 4 = lead text i 3 := lead_small text 3 i h 1
    omega
  · have e : lead text i 3 = 3 := by omega
    have h4 : lead text i 4 = _ := lead_step text 3 i e
    unfold p3 at hc
    rw [e] at hc
    unfold at0 at hc
    rw [h4]
    split
    · rename_i h1
      rw [dif_pos h1] at hc
      rw [if_neg hc]
      omega
    · omega

abbrev P5 (w : World) (b i : Nat) (text : ByteArray) (nl : Int) : World :=
  ((((w.setCell ⟨b, 0, none⟩ (.int .i64 0)).setCell ⟨b, 1, none⟩ (.int .i64 i)).setCell ⟨b, 2, none⟩ (.int .i64 0)).setCell ⟨b, 3, none⟩ (.string text)).setCell ⟨b, 4, none⟩ (.int .u8 nl)

theorem put5 {w : World} {b i : Nat} {text : ByteArray} {nl : Int} (hL : LineAt w b i text nl) (i' : Nat) (text' : ByteArray) (nl' : Int) :
    Mods (fun k => k = b) w (P5 w b i' text' nl') ∧ LineAt (P5 w b i' text' nl') b i' text' nl' := by
  constructor
  · exact (((((Mods.refl (fun k => k = b) w).setCell (p := ⟨b, 0, none⟩) (fun _ => rfl) _).setCell (p := ⟨b, 1, none⟩) (fun _ => rfl) _).setCell (p := ⟨b, 2, none⟩) (fun _ => rfl) _).setCell (p := ⟨b, 3, none⟩) (fun _ => rfl) _).setCell (p := ⟨b, 4, none⟩) (fun _ => rfl) _
  · exact ((((Blk.set_same hL 0 _).set_same 1 _).set_same 2 _).set_same 3 _).set_same 4 _

theorem trim_noC (b i : Nat) (text : ByteArray) (c : Int) (nl : Int) (w : World) (hi : i ≤ text.size) (hL : LineAt w b i text nl)
    (hne : ((at0 text i).toNat : Int) ≠ c) :
    Calls Tryz.prog 252 #[.pointer (some ⟨b, 0, none⟩), .int .u8 c] w fun e w' => e = .returned (.bool false) ∧ ∃ n, w' = w.drewN n :=
  trim_no b i text c nl w hi hL (fun h e => hne (by simp [at0, h]; exact e))

set_option maxHeartbeats 1000000 in
theorem trimQuote_no (text : ByteArray) (i : Nat) (nl : Int) (w : World) (hi : i ≤ text.size) (hT : Txt text) (hc : ((at0 text (p3 text i)).toNat : Int) ≠ 62) :
    Calls Tryz.prog 213 #[LV i text nl] w fun e w' => e = .returned (.tuple #[LV i text nl, .bool false]) ∧ Same w w' := by
  have hp := (p3_le hi).2
  go_enter Tryz.func213, Tryz.ntmps213
  go_wp2_with fail
  generalize hW : (((w.alloc _).alloc _).alloc _ : World) = W
  have hm0 : Same w W := by subst hW; exact (((Mods.refl _ w).alloc _).alloc _).alloc _
  have hs0 : W.heap.size = w.heap.size + 1 + 1 + 1 := by subst hW; simp
  have hb : Blk W w.heap.size (lineCells i text nl) 177 := by
    subst hW; exact ((Blk.newAt _ _ rfl).alloc _).alloc _
  have hr : LineAt W (w.heap.size + 1) 0 ⟨#[]⟩ 0 := by
    subst hW; exact (Blk.newAt _ _ (by simp)).alloc _
  have ht : LineAt W (w.heap.size + 1 + 1) i text nl := by
    subst hW; exact Blk.newAt _ _ (by simp)
  clear hW
  refine (trimSpace_03 _ text i nl W hi hT ht).mono ?_
  rintro e w1 ⟨rfl, hm1, hl1⟩
  have hb1 := hb.keep1 hm1 (by omega)
  have hr1 := Blk.keep1 hr hm1 (by omega)
  have hk : Same w w1 := hm0.then hm1 (by intro b hb; omega)
  clear ht hb hr hm1 hm0
  go_wp2_with fail
  refine (trim_noC _ _ _ _ _ _ hp hl1 hc).mono ?_
  rintro e w2 ⟨rfl, n, rfl⟩
  obtain ⟨g0, g1, g2, g3, g4, gf0, gf1, gf2, gf3, gf4, gbl⟩ := LineAt.facts hb1
  obtain ⟨r0, r1, r2, r3, r4, rf0, rf1, rf2, rf3, rf4, rbl⟩ := LineAt.facts hr1
  clear hb1 hl1
  go_wp2
  exact bodyPost_ret (v := .tuple #[LV i text nl, .bool false]) (by simp [results, Tryz.results213, go_sem, r0, r1, r2, r3, r4]) rfl ⟨rfl, by
    exact hk.then ((Mods.drewN (Mods.refl _ _) n).trans (put5 (Blk.drewN hr1 n) i text nl).1) (by intro b hb; omega)⟩
end Go.Proofs.YtmmopoofheblbaaGreatDoor

/- The functions that try to begin a block, where the line begins none: quotation, thematic break, HTML. -/
namespace Go.Proofs.YtmmopoofheblbaaGreatDoor
open Go Go.RowKit Go.Proofs

theorem bne_of {c : UInt8} {k : Int} (h : (c.toNat : Int) ≠ k) : ((c.toNat : Int) == k) = false := beq_eq_false_iff_ne.2 h

set_option maxHeartbeats 1000000 in
theorem newQuote_no (p : Value) (text : ByteArray) (i : Nat) (nl : Int) (w : World) (hi : i ≤ text.size) (hT : Txt text) (hc : ((at0 text (p3 text i)).toNat : Int) ≠ 62) :
    Calls Tryz.prog 164 #[p, LV i text nl] w fun e w' => e = .returned (.tuple #[LV i text nl, .bool false]) ∧ Same w w' := by
  go_enter Tryz.func164, Tryz.ntmps164
  go_wp2_with fail
  generalize hW : ((w.alloc _).alloc _ : World) = W
  have hm0 : Same w W := by subst hW; exact ((Mods.refl _ w).alloc _).alloc _
  have hs0 : W.heap.size = w.heap.size + 1 + 1 := by subst hW; simp
  have hb : LineAt W w.heap.size i text nl := by subst hW; exact (Blk.newAt _ _ rfl).alloc _
  have hr : LineAt W (w.heap.size + 1) 0 ⟨#[]⟩ 0 := by subst hW; exact Blk.newAt _ _ (by simp)
  clear hW
  refine (trimQuote_no text i nl W hi hT hc).mono ?_
  rintro e w1 ⟨rfl, hm1⟩
  have hk : Same w w1 := hm0.trans hm1
  have hb1 := Same.blk hm1 hb
  have hr1 := Same.blk hm1 hr
  obtain ⟨g0, g1, g2, g3, g4, gf0, gf1, gf2, gf3, gf4, gbl⟩ := LineAt.facts hb1
  obtain ⟨r0, r1, r2, r3, r4, rf0, rf1, rf2, rf3, rf4, rbl⟩ := LineAt.facts hr1
  clear hb hr hb1 hm1 hm0 hs0
  go_wp2
  exact bodyPost_ret (v := .tuple #[LV i text nl, .bool false]) (by simp [results, Tryz.results164, go_sem, r0, r1, r2, r3, r4, rbl]) rfl ⟨rfl, by
    exact hk.then ((put5 hr1 i text nl).1.alloc _) (by intro b hb; omega)⟩

set_option maxHeartbeats 1000000 in
theorem isHR_no (text : ByteArray) (i : Nat) (nl : Int) (w : World) (hi : i ≤ text.size) (hT : Txt text)
    (c1 : ((at0 text (p3 text i)).toNat : Int) ≠ 45) (c2 : ((at0 text (p3 text i)).toNat : Int) ≠ 95) (c3 : ((at0 text (p3 text i)).toNat : Int) ≠ 42) :
    Calls Tryz.prog 226 #[LV i text nl] w fun e w' => e = .returned (.bool false) ∧ Same w w' := by
  have hp := (p3_le hi).2
  have d1 := bne_of c1
  have d2 := bne_of c2
  have d3 := bne_of c3
  clear c1 c2 c3
  go_enter Tryz.func226, Tryz.ntmps226
  go_wp2_with fail
  generalize hW : ((w.alloc _).alloc _ : World) = W
  have hm0 : Same w W := by subst hW; exact ((Mods.refl _ w).alloc _).alloc _
  have hl : LineAt W (w.heap.size + 1) i text nl := by subst hW; exact Blk.newAt _ _ (by simp)
  clear hW
  refine (trimSpace_03 _ text i nl W hi hT hl).mono ?_
  rintro e w1 ⟨rfl, hm1, hl1⟩
  have hk : Same w w1 := hm0.then hm1 (by intro b hb; omega)
  clear hl hm0 hm1
  go_wp2_with fail
  refine (peek_any _ _ _ _ _ hT.size hl1).mono ?_
  rintro e w2 ⟨rfl, n, rfl⟩
  clear hl1
  go_wp2
  go_ret
  exact ⟨rfl, hk.drewN n⟩

set_option maxHeartbeats 1000000 in
theorem newHR_no (p : Value) (text : ByteArray) (i : Nat) (nl : Int) (w : World) (hi : i ≤ text.size) (hT : Txt text)
    (c1 : ((at0 text (p3 text i)).toNat : Int) ≠ 45) (c2 : ((at0 text (p3 text i)).toNat : Int) ≠ 95) (c3 : ((at0 text (p3 text i)).toNat : Int) ≠ 42) :
    Calls Tryz.prog 167 #[p, LV i text nl] w fun e w' => e = .returned (.tuple #[LV i text nl, .bool false]) ∧ Same w w' := by
  go_enter Tryz.func167, Tryz.ntmps167
  go_wp2_with fail
  generalize hW : ((w.alloc _).alloc _ : World) = W
  have hm0 : Same w W := by subst hW; exact ((Mods.refl _ w).alloc _).alloc _
  have hb : LineAt W w.heap.size i text nl := by subst hW; exact (Blk.newAt _ _ rfl).alloc _
  have hr : LineAt W (w.heap.size + 1) 0 ⟨#[]⟩ 0 := by subst hW; exact Blk.newAt _ _ (by simp)
  clear hW
  refine (isHR_no text i nl W hi hT c1 c2 c3).mono ?_
  rintro e w1 ⟨rfl, hm1⟩
  have hk : Same w w1 := hm0.trans hm1
  have hb1 := Same.blk hm1 hb
  have hr1 := Same.blk hm1 hr
  obtain ⟨g0, g1, g2, g3, g4, gf0, gf1, gf2, gf3, gf4, gbl⟩ := LineAt.facts hb1
  obtain ⟨r0, r1, r2, r3, r4, rf0, rf1, rf2, rf3, rf4, rbl⟩ := LineAt.facts hr1
  clear hb hr hb1 hm1 hm0 c1 c2 c3
  go_wp2
  exact bodyPost_ret (v := .tuple #[LV i text nl, .bool false]) (by simp [results, Tryz.results167, go_sem, r0, r1, r2, r3, r4]) rfl ⟨rfl, by
    exact hk.then ((put5 hr1 i text nl).1) (by intro b hb; omega)⟩

set_option maxRecDepth 100000 in
set_option maxHeartbeats 1000000 in
theorem startHTML_no (p : Value) (b : Nat) (text : ByteArray) (i : Nat) (nl : Int) (w : World) (hi : i ≤ text.size) (hT : Txt text) (hL : LineAt w b i text nl)
    (c1 : ((at0 text (p3 text i)).toNat : Int) ≠ 60) :
    Calls Tryz.prog 229 #[p, .pointer (some ⟨b, 0, none⟩)] w fun e w' => e = .returned (.bool false) ∧ Same w w' := by
  obtain ⟨h0, h1, h2, h3, h4, hf0, hf1, hf2, hf3, hf4, hbl⟩ := hL.facts
  have d1 := bne_of c1
  go_enter Tryz.func229, Tryz.ntmps229
  go_wp2
  go_step3
  go_wp2_with fail
  generalize hW : (w.alloc _ : World) = W
  have hm0 : Same w W := by subst hW; exact (Mods.refl _ w).alloc _
  have hl : LineAt W (w.heap.size) i text nl := by subst hW; exact Blk.newAt _ _ rfl
  clear hW h0 h1 h2 h3 h4 hf0 hf1 hf2 hf3 hf4 hbl hL
  refine (trimSpace_03 _ text i nl W hi hT hl).mono ?_
  rintro e w1 ⟨rfl, hm1, hl1⟩
  have hk : Same w w1 := hm0.then hm1 (by intro b hb; omega)
  clear hl hm0 hm1
  go_wp2_with fail
  refine (peek_any _ _ _ _ _ hT.size hl1).mono ?_
  rintro e w2 ⟨rfl, n, rfl⟩
  clear hl1
  go_wp2
  try rw [Exit.noGoto_ret]
  go_ret
  exact ⟨rfl, hk.drewN n⟩

set_option maxHeartbeats 1000000 in
theorem newHTML_no (p : Value) (text : ByteArray) (i : Nat) (nl : Int) (w : World) (hi : i ≤ text.size) (hT : Txt text)
    (c1 : ((at0 text (p3 text i)).toNat : Int) ≠ 60) :
    Calls Tryz.prog 169 #[p, LV i text nl] w fun e w' => e = .returned (.tuple #[LV i text nl, .bool false]) ∧ Same w w' := by
  go_enter Tryz.func169, Tryz.ntmps169
  go_wp2_with fail
  generalize hW : (((w.alloc _).alloc _).alloc _ : World) = W
  have hm0 : Same w W := by subst hW; exact (((Mods.refl _ w).alloc _).alloc _).alloc _
  have hb : LineAt W w.heap.size i text nl := by subst hW; exact ((Blk.newAt _ _ rfl).alloc _).alloc _
  have hr : LineAt W (w.heap.size + 1) 0 ⟨#[]⟩ 0 := by subst hW; exact (Blk.newAt _ _ (by simp)).alloc _
  have hl : LineAt W (w.heap.size + 1 + 1) i text nl := by subst hW; exact Blk.newAt _ _ (by simp)
  clear hW
  refine (startHTML_no p _ text i nl W hi hT hl c1).mono ?_
  rintro e w1 ⟨rfl, hm1⟩
  have hk : Same w w1 := hm0.trans hm1
  have hb1 := Same.blk hm1 hb
  have hr1 := Same.blk hm1 hr
  obtain ⟨g0, g1, g2, g3, g4, gf0, gf1, gf2, gf3, gf4, gbl⟩ := LineAt.facts hb1
  obtain ⟨r0, r1, r2, r3, r4, rf0, rf1, rf2, rf3, rf4, rbl⟩ := LineAt.facts hr1
  clear hb hr hb1 hm1 hm0 c1 hl
  go_wp2
  exact bodyPost_ret (v := .tuple #[LV i text nl, .bool false]) (by simp [results, Tryz.results169, go_sem, r0, r1, r2, r3, r4]) rfl ⟨rfl, by
    exact hk.then ((put5 hr1 i text nl).1) (by intro b hb; omega)⟩

set_option maxHeartbeats 1000000 in
theorem trimHeading_no (b : Nat) (q : Value) (text : ByteArray) (i : Nat) (nl : Int) (w : World) (hi : i ≤ text.size) (hT : Txt text) (hL : LineAt w b i text nl)
    (c1 : ((at0 text (p3 text i)).toNat : Int) ≠ 35) :
    Calls Tryz.prog 214 #[.pointer (some ⟨b, 0, none⟩), q] w fun e w' => e = .returned (.bool false) ∧ Same w w' := by
  have hp := (p3_le hi).2
  obtain ⟨h0, h1, h2, h3, h4, hf0, hf1, hf2, hf3, hf4, hbl⟩ := hL.facts
  go_enter Tryz.func214, Tryz.ntmps214
  go_wp2_with fail
  generalize hW : (w.alloc _ : World) = W
  have hm0 : Same w W := by subst hW; exact (Mods.refl _ w).alloc _
  have hl : LineAt W (w.heap.size) i text nl := by subst hW; exact Blk.newAt _ _ rfl
  clear hW h0 h1 h2 h3 h4 hf0 hf1 hf2 hf3 hf4 hbl hL
  refine (trimSpace_03 _ text i nl W hi hT hl).mono ?_
  rintro e w1 ⟨rfl, hm1, hl1⟩
  have hk : Same w w1 := hm0.then hm1 (by intro b hb; omega)
  clear hl hm0 hm1
  go_wp2_with fail
  refine (trim_noC _ _ _ _ _ _ hp hl1 c1).mono ?_
  rintro e w2 ⟨rfl, n, rfl⟩
  clear hl1
  go_wp2
  go_ret
  exact ⟨rfl, hk.drewN n⟩

set_option maxHeartbeats 1000000 in
theorem newATX_no (p : Value) (text : ByteArray) (i : Nat) (nl : Int) (w : World) (hi : i ≤ text.size) (hT : Txt text)
    (c1 : ((at0 text (p3 text i)).toNat : Int) ≠ 35) :
    Calls Tryz.prog 165 #[p, LV i text nl] w fun e w' => e = .returned (.tuple #[LV i text nl, .bool false]) ∧ Same w w' := by
  go_enter Tryz.func165, Tryz.ntmps165
  go_wp2_with fail
  generalize hW : ((((w.alloc _).alloc _).alloc _).alloc _ : World) = W
  have hm0 : Same w W := by subst hW; exact ((((Mods.refl _ w).alloc _).alloc _).alloc _).alloc _
  have hb : LineAt W w.heap.size i text nl := by subst hW; exact (((Blk.newAt _ _ rfl).alloc _).alloc _).alloc _
  have hr : LineAt W (w.heap.size + 1) 0 ⟨#[]⟩ 0 := by subst hW; exact ((Blk.newAt _ _ (by simp)).alloc _).alloc _
  have hl : LineAt W (w.heap.size + 1 + 1) i text nl := by subst hW; exact (Blk.newAt _ _ (by simp)).alloc _
  clear hW
  refine (trimHeading_no _ _ text i nl W hi hT hl c1).mono ?_
  rintro e w1 ⟨rfl, hm1⟩
  have hk : Same w w1 := hm0.trans hm1
  have hb1 := Same.blk hm1 hb
  have hr1 := Same.blk hm1 hr
  obtain ⟨g0, g1, g2, g3, g4, gf0, gf1, gf2, gf3, gf4, gbl⟩ := LineAt.facts hb1
  obtain ⟨r0, r1, r2, r3, r4, rf0, rf1, rf2, rf3, rf4, rbl⟩ := LineAt.facts hr1
  clear hb hr hb1 hm1 hm0 c1 hl
  go_wp2
  exact bodyPost_ret (v := .tuple #[LV i text nl, .bool false]) (by simp [results, Tryz.results165, go_sem, r0, r1, r2, r3, r4]) rfl ⟨rfl, by
    exact hk.then ((put5 hr1 i text nl).1) (by intro b hb; omega)⟩
end Go.Proofs.YtmmopoofheblbaaGreatDoor

/- The parser's state in memory, and the functions that only look at it. -/
namespace Go.Proofs.YtmmopoofheblbaaGreatDoor
open Go Go.RowKit Go.Proofs

/-- The fields of the parser's state (all but those of the code spans). -/
structure PSt where
  parser : Nat
  root : Value
  links : Value
  lineno : Int
  stack : Value
  depth : Int
  corner : Bool
  s : ByteArray
  emitted : Int
  list : Value
  lists : Value
  texts : Value
  tail : List Value

def psHead (p : PSt) : List Value :=
  [.pointer (some ⟨p.parser, 0, none⟩), p.root, p.links, .int .i64 p.lineno, p.stack, .int .i64 p.depth, .bool p.corner, .string p.s, .int .i64 p.emitted, p.list, p.lists, p.texts]

/-- The cells of the code spans' state when it is made. -/
def tail0 : List Value := List.replicate 80 (.int .i64 0) ++ [.bool false]

def PsAt (w : World) (bp : Nat) (p : PSt) : Prop := ∃ tail : { l : List Value // l = p.tail }, Blk w bp (psHead p ++ tail.1).toArray 167

theorem PsAt.cell {w : World} {bp : Nat} {p : PSt} (h : PsAt w bp p) (i : Nat) (hi : i < 12) : w.cell? ⟨bp, i, none⟩ = (psHead p)[i]? := by
  obtain ⟨tail, h⟩ := h
  rw [h.cell i]
  have : (psHead p).length = 12 := rfl
  simp [List.getElem?_append, this, hi]

theorem PsAt.fr {w : World} {bp : Nat} {p : PSt} (h : PsAt w bp p) (i : Nat) : w.frozen? ⟨bp, i, none⟩ = false := by
  obtain ⟨tail, h⟩ := h
  exact h.fr i
theorem PsAt.lt {w : World} {bp : Nat} {p : PSt} (h : PsAt w bp p) : bp < w.heap.size := by
  obtain ⟨tail, h⟩ := h
  exact h.lt

section
variable {w : World} {bp : Nat} {p : PSt} (h : PsAt w bp p)
include h
theorem PsAt.parser : w.cell? ⟨bp, 0, none⟩ = some (.pointer (some ⟨p.parser, 0, none⟩)) := h.cell 0 (by decide)
theorem PsAt.root : w.cell? ⟨bp, 1, none⟩ = some p.root := h.cell 1 (by decide)
theorem PsAt.links : w.cell? ⟨bp, 2, none⟩ = some p.links := h.cell 2 (by decide)
theorem PsAt.lineno : w.cell? ⟨bp, 3, none⟩ = some (.int .i64 p.lineno) := h.cell 3 (by decide)
theorem PsAt.stack : w.cell? ⟨bp, 4, none⟩ = some p.stack := h.cell 4 (by decide)
theorem PsAt.depth : w.cell? ⟨bp, 5, none⟩ = some (.int .i64 p.depth) := h.cell 5 (by decide)
theorem PsAt.corner : w.cell? ⟨bp, 6, none⟩ = some (.bool p.corner) := h.cell 6 (by decide)
theorem PsAt.s : w.cell? ⟨bp, 7, none⟩ = some (.string p.s) := h.cell 7 (by decide)
theorem PsAt.emitted : w.cell? ⟨bp, 8, none⟩ = some (.int .i64 p.emitted) := h.cell 8 (by decide)
theorem PsAt.list : w.cell? ⟨bp, 9, none⟩ = some p.list := h.cell 9 (by decide)
theorem PsAt.lists : w.cell? ⟨bp, 10, none⟩ = some p.lists := h.cell 10 (by decide)
theorem PsAt.texts : w.cell? ⟨bp, 11, none⟩ = some p.texts := h.cell 11 (by decide)
theorem PsAt.keep {S : Nat → Prop} {w' : World} (hm : Mods S w w') (hS : ¬ S bp) : PsAt w' bp p := by
  obtain ⟨tail, h⟩ := h
  exact ⟨tail, h.keep hm hS⟩
theorem PsAt.same {w' : World} (hm : Same w w') : PsAt w' bp p := h.keep hm (fun x => x)
theorem PsAt.alloc (o : Obj) : PsAt (w.alloc o) bp p := by
  obtain ⟨tail, h⟩ := h
  exact ⟨tail, h.alloc o⟩
theorem PsAt.drewN (n : Nat) : PsAt (w.drewN n) bp p := h
theorem PsAt.drew : PsAt w.drew bp p := h
theorem PsAt.set_other {a : Addr} (ha : a.block ≠ bp) (v : Value) : PsAt (w.setCell a v) bp p := by
  obtain ⟨tail, h⟩ := h
  exact ⟨tail, h.set_other ha v⟩
theorem PsAt.set (i : Nat) (v : Value) (q : PSt) (hq : (psHead p).set i v = psHead q) (hi : i < 12) (ht : q.tail = p.tail := by rfl) : PsAt (w.setCell ⟨bp, i, none⟩ v) bp q := by
  obtain ⟨⟨tail, htl⟩, h⟩ := h
  refine ⟨⟨tail, htl.trans ht.symm⟩, ?_⟩
  have := h.set_same i v
  have hl : (psHead p).length = 12 := rfl
  have e : (psHead p ++ tail).toArray.setIfInBounds i v = (psHead q ++ tail).toArray := by
    rw [← hq]
    simp [hl, hi]
  rwa [e] at this
end

/-- An open block: what builds it, what stands in it, its lines. -/
structure OB where
  b : Value
  inner : Value
  s : Int
  e : Int
def OB.cells (o : OB) : List Value := [o.b, o.inner, .int .i64 o.s, .int .i64 o.e]
theorem OB.len (o : OB) : o.cells.length = 4 := rfl

def obCells : List OB → List Value
  | [] => []
  | o :: l => o.cells ++ obCells l
theorem obCells_len : ∀ l : List OB, (obCells l).length = l.length * 4
  | [] => rfl
  | o :: l => by simp [obCells, obCells_len l, OB.len]; omega
theorem obCells_get : ∀ (l : List OB) (k j : Nat) (o : OB), l[k]? = some o → j < 4 → (obCells l)[k * 4 + j]? = o.cells[j]?
  | [], k, j, o, h, _ => by simp at h
  | x :: l, 0, j, o, h, hj => by
    simp at h
    subst h
    simp [obCells, List.getElem?_append, OB.len, hj]
  | x :: l, k + 1, j, o, h, hj => by
    simp at h
    have := obCells_get l k j o h hj
    simp only [obCells]
    rw [List.getElem?_append_right (by simp [OB.len]; omega), OB.len, ← this]
    congr 1
    omega

/-- Block g holds these open blocks, and room for cap of them. -/
def StackIs (w : World) (g cap : Nat) (l : List OB) : Prop :=
  l.length ≤ cap ∧ cap ≤ maxLen ∧ ∃ cur : Array Value, Blk w g cur 239 ∧ cur.size = cap * 4 ∧ cur.toList.take (l.length * 4) = obCells l

theorem StackIs.cell {w : World} {g cap : Nat} {l : List OB} (h : StackIs w g cap l) (k j : Nat) (o : OB) (hk : l[k]? = some o) (hj : j < 4) :
    w.cell? ⟨g, k * 4 + j, none⟩ = o.cells[j]? := by
  obtain ⟨h1, h2, cur, hb, hc, ht⟩ := h
  rw [hb.cell]
  have hk' : k < l.length := (List.getElem?_eq_some_iff.1 hk).1
  have := obCells_get l k j o hk hj
  rw [← ht, List.getElem?_take_of_lt (by omega)] at this
  simpa using this
theorem StackIs.fr {w : World} {g cap : Nat} {l : List OB} (h : StackIs w g cap l) (i : Nat) : w.frozen? ⟨g, i, none⟩ = false := by
  obtain ⟨h1, h2, cur, hb, hc, ht⟩ := h
  exact hb.fr i
theorem StackIs.lt {w : World} {g cap : Nat} {l : List OB} (h : StackIs w g cap l) : g < w.heap.size := by
  obtain ⟨h1, h2, cur, hb, hc, ht⟩ := h
  exact hb.lt
theorem StackIs.keep {w w' : World} {g cap : Nat} {l : List OB} {S : Nat → Prop} (h : StackIs w g cap l) (hm : Mods S w w') (hS : ¬ S g) : StackIs w' g cap l := by
  obtain ⟨h1, h2, cur, hb, hc, ht⟩ := h
  exact ⟨h1, h2, cur, hb.keep hm hS, hc, ht⟩

theorem as_para_yes (v : Value) (w : World) : (Instr.typeAssert (.iface 287 v) 237 287 true).run Tryz.prog w = .ok (.tuple #[v, .bool true]) w := by kernel_rfl
theorem as_ptr_no (T U S : Nat) (hU : Tryz.prog.underlying U = some (.pointer S)) (hz : ∀ w, (zeroValue U).run Tryz.prog w = .ok (.pointer none) w) (X : Nat) (v : Value) (w : World) (h : T ≠ U) :
    (Instr.typeAssert (.iface T v) X U true).run Tryz.prog w = .ok (.tuple #[.pointer none, .bool false]) w := by
  simp [Instr.typeAssert, run_underlying hU, h, hz]
theorem as_para_no (T X : Nat) (v : Value) (w : World) (h : T ≠ 287) :
    (Instr.typeAssert (.iface T v) X 287 true).run Tryz.prog w = .ok (.tuple #[.pointer none, .bool false]) w :=
  as_ptr_no T _ 291 (by kernel_rfl) (fun _ => by kernel_rfl) X v w h

set_option maxHeartbeats 1000000 in
theorem para_yes (bp g n cap : Nat) (p : PSt) (v : Value) (w : World) (hp : PsAt w bp p) (hst : p.stack = .slice (some ⟨g, 0, none⟩) (n + 1) cap) (hn : n ≤ 1000000)
    (hb : w.cell? ⟨g, n * 4, none⟩ = some (.iface 287 v)) :
    Calls Tryz.prog 172 #[.pointer (some ⟨bp, 0, none⟩)] w fun e w' => e = .returned v ∧ ∃ k, w' = w.drewN k := by
  have k4 := hp.stack
  rw [hst] at k4
  clear hst
  have w1 : IntKind.i64.wrap (n : Int) = n := IntWalk.i64_in _ (by omega)
  have w2 : (0 : Int) ≤ n := by omega
  have w3 : (n : Int) < (n : Int) + 1 := by omega
  have hA := as_para_yes
  go_enter Tryz.func172, Tryz.ntmps172
  go_wp2_with fail
  go_quiet (fail)
  go_wp2
  go_ret
  exact ⟨rfl, _, rfl⟩

set_option maxHeartbeats 1000000 in
theorem para_other (bp g n cap : Nat) (p : PSt) (T : Nat) (v : Value) (w : World) (hp : PsAt w bp p) (hst : p.stack = .slice (some ⟨g, 0, none⟩) (n + 1) cap) (hn : n ≤ 1000000)
    (hb : w.cell? ⟨g, n * 4, none⟩ = some (.iface T v)) (hT : T ≠ 287) :
    Calls Tryz.prog 172 #[.pointer (some ⟨bp, 0, none⟩)] w fun e w' => e = .returned (.pointer none) ∧ ∃ k, w' = w.drewN k := by
  have k4 := hp.stack
  rw [hst] at k4
  clear hst
  have w1 : IntKind.i64.wrap (n : Int) = n := IntWalk.i64_in _ (by omega)
  have w2 : (0 : Int) ≤ n := by omega
  have w3 : (n : Int) < (n : Int) + 1 := by omega
  have hA := fun w => as_para_no T 237 v w hT
  go_enter Tryz.func172, Tryz.ntmps172
  go_wp2_with fail
  go_quiet (fail)
  go_wp2
  go_ret
  exact ⟨rfl, _, rfl⟩
end Go.Proofs.YtmmopoofheblbaaGreatDoor
