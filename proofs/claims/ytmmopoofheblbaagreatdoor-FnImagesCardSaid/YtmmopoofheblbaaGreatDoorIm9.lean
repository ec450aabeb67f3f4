/- Some texts of one proof, put into one file: Em0, EmM, Em1, Em2, Em3, EmphV. -/
import Derived.Test.YtmmopoofheblbaaGreatDoorIm4
import Derived.Test.YtmmopoofheblbaaGreatDoorIm8
/- emph on any list of marks: the list that it reads and the list that it makes. -/
namespace Go.Proofs.YtmmopoofheblbaaGreatDoor.T
open Go Go.RowKit Go.Proofs

/-- emph reads xs (n values from place so of block sg on; those before i are read) and has made ys, which the value dv holds: in the same block (inp) or in one of its own. -/
structure Lst (w : World) (inp : Bool) (sg so sc n : Nat) (xs : List Value) (i : Nat) (dv : Value) (ys : List Value) : Prop where
  len : xs.length = n
  row : w.ownsRow 0 157 1 dv ys.length ys
  yes : inp = true → so = 0 ∧ ys.length ≤ i ∧ dv = .slice (some ⟨sg, 0, none⟩) ys.length sc ∧ ∃ zs, w.ownsRow 0 157 1 (.slice (some ⟨sg, 0, none⟩) n sc) n zs ∧ zs.take ys.length = ys ∧ ∀ j, i ≤ j → zs[j]? = xs[j]?
  no : inp = false → (∃ cur, Blk w sg cur 157 ∧ ∀ j, j < n → cur[so + j]? = xs[j]?) ∧ dv.ownBlock ≠ some sg

section
variable {w w' : World} {inp : Bool} {sg so sc n i : Nat} {xs ys : List Value} {dv : Value}

theorem Lst.read (h : Lst w inp sg so sc n xs i dv ys) (j : Nat) (hij : i ≤ j) (hj : j < n) (x : Value) (hx : xs[j]? = some x) : w.cell? ⟨sg, so + j, none⟩ = some x := by
  cases inp with
  | true =>
    obtain ⟨rfl, _, _, zs, hr, _, hz⟩ := h.yes rfl
    obtain ⟨_, _, he, _, _, hc⟩ := ownsRow_form hr (by omega)
    cases he
    rw [Nat.zero_add]
    exact hc j x (by rw [hz j hij]; exact hx)
  | false =>
    obtain ⟨⟨cur, hb, hc⟩, _⟩ := h.no rfl
    rw [hb.cell, hc j hj]
    exact hx
theorem Lst.keep {S : Nat → Prop} (h : Lst w inp sg so sc n xs i dv ys) (hm : Mods S w w') (h1 : ¬ S sg) (h2 : ∀ g, dv.ownBlock = some g → ¬ S g) : Lst w' inp sg so sc n xs i dv ys where
  len := h.len
  row := ownsRow_keep h.row hm h2
  yes hi := by
    obtain ⟨a, b, c, zs, d, e, f⟩ := h.yes hi
    exact ⟨a, b, c, zs, ownsRow_keep d hm (fun g hg => by cases hg; exact h1), e, f⟩
  no hi := by
    obtain ⟨⟨cur, hb, hc⟩, hne⟩ := h.no hi
    exact ⟨⟨cur, hb.keep hm h1, hc⟩, hne⟩
theorem Lst.same (h : Lst w inp sg so sc n xs i dv ys) (hm : Same w w') : Lst w' inp sg so sc n xs i dv ys := h.keep hm (fun x => x) (fun _ _ x => x)
theorem Lst.sgblk (h : Lst w inp sg so sc n xs i dv ys) (h0 : 0 < n) : ∃ cur, Blk w sg cur 157 := by
  cases inp with
  | true =>
    obtain ⟨_, _, _, zs, hr, _, _⟩ := h.yes rfl
    exact row_blk hr rfl
  | false =>
    obtain ⟨⟨cur, hb, _⟩, _⟩ := h.no rfl
    exact ⟨cur, hb⟩
theorem Lst.step (h : Lst w inp sg so sc n xs i dv ys) : Lst w inp sg so sc n xs (i + 1) dv ys where
  len := h.len
  row := h.row
  yes hi := by
    obtain ⟨a, b, c, zs, d, e, f⟩ := h.yes hi
    exact ⟨a, by omega, c, zs, d, e, fun j hj => f j (by omega)⟩
  no := h.no

/-- A row cut to its first k values. -/
theorem row_take {e m : Nat} {a : Option Addr} {c k : Nat} {l : List Value} (h : w.ownsRow 0 e 1 (.slice a m c) m l) (hk : k ≤ m) (h0 : 0 < m) : w.ownsRow 0 e 1 (.slice a k c) k (l.take k) := by
  have hl := h.1
  simp only [Nat.mul_one] at hl
  refine ⟨by simp; omega, ?_⟩
  rcases h.2 with ⟨h1, h2⟩ | ⟨g, cap, cur, hv, hb, hg, hc, hm, hs, ht⟩
  · omega
  · cases hv
    refine .inr ⟨g, c, cur, rfl, hb, hg, by omega, hm, hs, ?_⟩
    simp only [Nat.mul_one] at ht ⊢
    rw [← ht, List.take_take, Nat.min_eq_left hk]

theorem Lst.cut (h : Lst w inp sg so sc n xs i dv ys) {da : Option Addr} {dc : Nat} (hdv : dv = .slice da ys.length dc) (k : Nat) (hk : k ≤ ys.length) (h0 : 0 < ys.length) : Lst w inp sg so sc n xs i (.slice da k dc) (ys.take k) where
  len := h.len
  row := by
    have e : (ys.take k).length = k := by simp; omega
    rw [e]
    exact row_take (hdv ▸ h.row) hk h0
  yes hi := by
    obtain ⟨a, b, c, zs, d, e, f⟩ := h.yes hi
    have e1 : (ys.take k).length = k := by simp; omega
    rw [hdv] at c
    cases c
    refine ⟨a, by omega, by rw [e1], zs, d, ?_, f⟩
    rw [e1, ← e, List.take_take, Nat.min_eq_left hk]
  no hi := by
    obtain ⟨a, b⟩ := h.no hi
    rw [hdv] at b
    exact ⟨a, fun e => b (by cases da <;> exact e)⟩

theorem Lst.cap {da : Option Addr} {dc : Nat} (h : Lst w inp sg so sc n xs i (.slice da ys.length dc) ys) (h0 : 0 < ys.length) : ∃ g, da = some ⟨g, 0, none⟩ ∧ ys.length ≤ dc ∧ (∃ cur, Blk w g cur 157) ∧ ∀ j x, ys[j]? = some x → w.cell? ⟨g, j, none⟩ = some x := by
  have hr := h.row
  rcases hr.2 with ⟨_, h2⟩ | ⟨g, cap, cur, hv, _, hg, hc, _⟩
  · omega
  · cases hv
    obtain ⟨_, _, he, hb, _, hcc⟩ := ownsRow_form hr h0
    cases he
    exact ⟨g, rfl, hc, hb, hcc⟩
end

section
variable {w : World} {inp : Bool} {sg so sc n i : Nat} {xs ys : List Value} {dv : Value} {ops : Array Oper} {rest : List Oper} {o : Oper} {a : Act} {Q : Exit → Act → World → Prop}

/-- One more value behind what was made. -/
theorem wp_dst {K : Act → World → Prop} (s x : Operand) (ho : o.op = .call { callee := .builtin .append, args := #[s, x], argTypes := #[84, 84] })
    (hL : Lst w inp sg so sc n xs (i + 1) dv ys) (hyi : ys.length ≤ i) (hin : i < n) (hn : n ≤ 1000000) (T : Nat) (u : Value) (b c : Nat)
    (hs : a.eval s = dv) (hx : a.eval x = .slice (some ⟨b, 0, none⟩) 1 c) (hb : w.cell? ⟨b, 0, none⟩ = some (.iface T u))
    (h : ∀ g cap w', Lst w' inp sg so sc n xs (i + 1) (.slice (some ⟨g, 0, none⟩) (ys.length + 1) cap) (ys ++ [.iface T u]) → Mods (fun k => dv.ownBlock = some k) w w' → (dv.ownBlock = some g ∨ g = w.heap.size) → K (a.put o.dst (.slice (some ⟨g, 0, none⟩) (ys.length + 1) cap)) w') : o.wp Tryz.prog a w K Q := by
  cases inp with
  | true =>
    obtain ⟨ha, hb', hc, zs, hr, ht, hz⟩ := hL.yes rfl
    subst hc
    refine wp_room_inl s x ho sg ys.length n sc zs hr (by omega) (.iface T u) rfl b c hs hx hb (fun w' hm hr' => h sg sc w' ?_ (hm.mono (fun k _ e => by rw [e]; rfl)) (Or.inl rfl))
    have hzl : zs.length = n := by have := hr.1; omega
    have e1 : (ys ++ [Value.iface T u]).length = ys.length + 1 := by simp
    have htk : (zs.set ys.length (.iface T u)).take (ys.length + 1) = ys ++ [.iface T u] := by
      rw [List.take_succ_eq_append_getElem (by simp; omega), List.take_set]
      simp only [List.getElem_set_self]
      rw [List.set_eq_of_length_le (by simp; omega), ht]
    refine ⟨hL.len, ?_, fun _ => ⟨ha, by simp; omega, by rw [e1], _, hr', by rw [e1]; exact htk, fun j hj => ?_⟩, fun hi => by cases hi⟩
    · rw [e1, ← htk]
      exact row_take hr' (by omega) (by omega)
    · rw [List.getElem?_set_ne (by omega)]
      exact hz j hj
  | false =>
    obtain ⟨⟨cur, hcb, hcc⟩, hne⟩ := hL.no rfl
    have hi : (Tryz.prog.info? 157).map (fun i => (i.zero, i.size, i.bytes)) = some (some Value.nilIface, 1, 16) := by kernel_rfl
    obtain ⟨i0, hi0, hz⟩ := Option.map_eq_some_iff.1 hi
    simp only [Prod.mk.injEq] at hz
    obtain ⟨hz0, hz1, hz2⟩ := hz
    refine wp_append_lies w s x 84 ho 0 157 i0 .nilIface 1 16 Tryz.underlying84 hi0 hz0 hz1 hz2 rfl (by decide) dv ys.length ys hs hL.row ⟨b, 0, none⟩ 1 c [.iface T u] hx rfl ?_ (fun y hy => by simp at hy; subst hy; rfl) (by omega) (by unfold maxLen; omega) (by omega) (Nat.zero_le _) _ rfl
      (fun g cap w' hown hgrow hloc _ => h g cap w' ?_ (grown_mods hgrow) hloc)
    · intro j y hy
      cases j with
      | zero => simp at hy; subst hy; simpa [Addr.add_lit] using hb
      | succ j => simp at hy
    · have hm := grown_mods hgrow
      refine ⟨hL.len, by simpa using hown, fun hi => (by cases hi), fun _ => ⟨⟨cur, hcb.keep hm (fun e => hne e), hcc⟩, ?_⟩⟩
      intro e
      have e' : g = sg := Option.some.inj e
      rcases hloc with hh | hh
      · exact hne (by rw [hh, e'])
      · have := hcb.lt
        omega

theorem wl_dst (hgd : o.guard = none) (s x : Operand) (ho : o.op = .call { callee := .builtin .append, args := #[s, x], argTypes := #[84, 84] })
    (hL : Lst w inp sg so sc n xs (i + 1) dv ys) (hyi : ys.length ≤ i) (hin : i < n) (hn : n ≤ 1000000) (T : Nat) (u : Value) (b c : Nat)
    (hs : a.eval s = dv) (hx : a.eval x = .slice (some ⟨b, 0, none⟩) 1 c) (hb : w.cell? ⟨b, 0, none⟩ = some (.iface T u))
    (h : ∀ g cap w', Lst w' inp sg so sc n xs (i + 1) (.slice (some ⟨g, 0, none⟩) (ys.length + 1) cap) (ys ++ [.iface T u]) → Mods (fun k => dv.ownBlock = some k) w w' → (dv.ownBlock = some g ∨ g = w.heap.size) → wpList Tryz.prog ops Q rest (a.put o.dst (.slice (some ⟨g, 0, none⟩) (ys.length + 1) cap)) w') : wpList Tryz.prog ops Q (o :: rest) a w :=
  wpList_plain hgd fun _ hK => wp_dst s x ho hL hyi hin hn T u b c hs hx hb fun g cap w' h1 h2 h3 => hK _ _ (h g cap w' h1 h2 h3)

theorem st_dst {K : Act → World → Prop} {E : Prop} (hgd : o.guard = none) (s x : Operand) (ho : o.op = .call { callee := .builtin .append, args := #[s, x], argTypes := #[84, 84] })
    (hL : Lst w inp sg so sc n xs (i + 1) dv ys) (hyi : ys.length ≤ i) (hin : i < n) (hn : n ≤ 1000000) (T : Nat) (u : Value) (b c : Nat)
    (hs : a.eval s = dv) (hx : a.eval x = .slice (some ⟨b, 0, none⟩) 1 c) (hb : w.cell? ⟨b, 0, none⟩ = some (.iface T u))
    (h : ∀ g cap w', Lst w' inp sg so sc n xs (i + 1) (.slice (some ⟨g, 0, none⟩) (ys.length + 1) cap) (ys ++ [.iface T u]) → Mods (fun k => dv.ownBlock = some k) w w' → (dv.ownBlock = some g ∨ g = w.heap.size) → K (a.put o.dst (.slice (some ⟨g, 0, none⟩) (ys.length + 1) cap)) w') : if Region.wanted o (yielded ops a.tmps) = true then Oper.wp Tryz.prog o a w K Q else E := by
  have hw : Region.wanted o (yielded ops a.tmps) = true := by simp [Region.wanted, hgd]
  rw [if_pos hw]
  exact wp_dst s x ho hL hyi hin hn T u b c hs hx hb h

theorem wl_dst' (hgd : o.guard = none) (s x : Operand) (ho : o.op = .call { callee := .builtin .append, args := #[s, x], argTypes := #[84, 84] })
    (hL : Lst w inp sg so sc n xs i dv ys) (hyi : ys.length < i) (hin : i ≤ n) (hn : n ≤ 1000000) (T : Nat) (u : Value) (b c : Nat)
    (hs : a.eval s = dv) (hx : a.eval x = .slice (some ⟨b, 0, none⟩) 1 c) (hb : w.cell? ⟨b, 0, none⟩ = some (.iface T u))
    (h : ∀ g cap w', Lst w' inp sg so sc n xs i (.slice (some ⟨g, 0, none⟩) (ys.length + 1) cap) (ys ++ [.iface T u]) → Mods (fun k => dv.ownBlock = some k) w w' → (dv.ownBlock = some g ∨ g = w.heap.size) → wpList Tryz.prog ops Q rest (a.put o.dst (.slice (some ⟨g, 0, none⟩) (ys.length + 1) cap)) w') : wpList Tryz.prog ops Q (o :: rest) a w := by
  obtain ⟨k, rfl⟩ : ∃ k, i = k + 1 := ⟨i - 1, by omega⟩
  exact wl_dst hgd s x ho hL (by omega) (by omega) hn T u b c hs hx hb h

theorem st_dst' {K : Act → World → Prop} {E : Prop} (hgd : o.guard = none) (s x : Operand) (ho : o.op = .call { callee := .builtin .append, args := #[s, x], argTypes := #[84, 84] })
    (hL : Lst w inp sg so sc n xs i dv ys) (hyi : ys.length < i) (hin : i ≤ n) (hn : n ≤ 1000000) (T : Nat) (u : Value) (b c : Nat)
    (hs : a.eval s = dv) (hx : a.eval x = .slice (some ⟨b, 0, none⟩) 1 c) (hb : w.cell? ⟨b, 0, none⟩ = some (.iface T u))
    (h : ∀ g cap w', Lst w' inp sg so sc n xs i (.slice (some ⟨g, 0, none⟩) (ys.length + 1) cap) (ys ++ [.iface T u]) → Mods (fun k => dv.ownBlock = some k) w w' → (dv.ownBlock = some g ∨ g = w.heap.size) → K (a.put o.dst (.slice (some ⟨g, 0, none⟩) (ys.length + 1) cap)) w') : if Region.wanted o (yielded ops a.tmps) = true then Oper.wp Tryz.prog o a w K Q else E := by
  obtain ⟨k, rfl⟩ : ∃ k, i = k + 1 := ⟨i - 1, by omega⟩
  exact st_dst hgd s x ho hL (by omega) (by omega) hn T u b c hs hx hb h
end
end Go.Proofs.YtmmopoofheblbaaGreatDoor.T

/- What emph makes of a list of marks: the plain half. -/
namespace Go.Proofs.YtmmopoofheblbaaGreatDoor.T
open Go Go.RowKit Go.Proofs

/-- A run of signs. -/
def run (c : UInt8) (k : Nat) : ByteArray := ⟨(List.replicate k c).toArray⟩
theorem run_size (c : UInt8) (k : Nat) : (run c k).size = k := by simp [run, ByteArray.size]
theorem run_get (c : UInt8) (k j : Nat) (h : j < (run c k).size) : (run c k)[j] = c := by
  show (run c k).data[j] = c
  simp [run]
theorem run_take (c : UInt8) (k d : Nat) (h : d ≤ k) : (run c k).extract 0 d = run c d := by
  apply ByteArray.ext
  rw [ByteArray.data_extract]
  apply Array.ext'
  simp [run, h]
theorem run_drop (c : UInt8) (k d : Nat) : (run c k).extract d k = run c (k - d) := by
  apply ByteArray.ext
  rw [ByteArray.data_extract]
  apply Array.ext'
  simp [run]
theorem run_nil (c : UInt8) : run c 0 = ⟨#[]⟩ := rfl

/-- A mark: its block, its sign and how many of it are left, whether it opens and closes, how many there were. -/
structure Mk where
  m : Nat
  c : UInt8
  k : Nat
  co : Bool
  cc : Bool
  n : Nat
/-- A sign of marks. -/
def McOk (c : UInt8) : Prop := c = 95 ∨ c = 42 ∨ c = 126
/-- Its place among the kinds. -/
def kIx (c : UInt8) : Nat := if c = 95 then 0 else if c = 42 then 1 else 2
theorem kIx_lt (c : UInt8) : kIx c < 3 := by unfold kIx; split <;> (try split) <;> omega
theorem kIx_inj {c d : UInt8} (hc : McOk c) (hd : McOk d) (h : kIx c = kIx d) : c = d := by
  rcases hc with rfl | rfl | rfl <;> rcases hd with rfl | rfl | rfl <;> first | rfl | (exact absurd h (by decide))

/-- What has been made so far, and what is still to be read. -/
inductive Dt where
  | fin (t : Inl)
  | mk (p : Mk)
inductive Sr where
  | fin (t : Inl)
  | opn (t : ByteArray) (i : Int)
  | mk (p : Mk)
def plainI (s : ByteArray) : Inl := .leaf 224 [.string s]
def markI (s : ByteArray) : Inl := .leaf 266 [.string s]
def Dt.inl : Dt → Inl
  | .fin t => t
  | .mk p => markI (run p.c p.k)
def emNode (c : UInt8) (d : Nat) (kids : List Inl) : Inl := .node (if c = 126 then 205 else if d = 2 then 203 else 200) [.string (run c d)] kids []

/-- The marks of a list, with their places. -/
def marksFrom : Nat → List Dt → List (Nat × Mk)
  | _, [] => []
  | j, .fin _ :: l => marksFrom (j + 1) l
  | j, .mk p :: l => (j, p) :: marksFrom (j + 1) l
def liveD (l : List Dt) : List Nat := (marksFrom 0 l).map (fun x => x.2.m)
def liveS : List Sr → List Nat
  | [] => []
  | .mk p :: l => p.m :: liveS l
  | .fin _ :: l => liveS l
  | .opn _ _ :: l => liveS l
/-- Those of kind q. -/
def stkOf (q : Nat) (l : List Dt) : List (Nat × Mk) := (marksFrom 0 l).filter (fun x => kIx x.2.c == q)

theorem marksFrom_append (a b : List Dt) : ∀ j, marksFrom j (a ++ b) = marksFrom j a ++ marksFrom (j + a.length) b := by
  induction a with
  | nil => intro j; simp [marksFrom]
  | cons x a ih =>
    intro j
    cases x with
    | fin t => simp only [List.cons_append, marksFrom, ih, List.length_cons]; congr 2; omega
    | mk p => simp only [List.cons_append, marksFrom, ih, List.length_cons]; congr 3; omega
theorem marksFrom_get : ∀ (l : List Dt) (j i : Nat) (p : Mk), (i, p) ∈ marksFrom j l ↔ j ≤ i ∧ l[i - j]? = some (.mk p)
  | [], j, i, p => by simp [marksFrom]
  | .fin t :: l, j, i, p => by
    simp only [marksFrom]
    rw [marksFrom_get l (j + 1) i p]
    constructor
    · rintro ⟨h1, h2⟩
      refine ⟨by omega, ?_⟩
      rw [show i - j = (i - (j + 1)) + 1 by omega]
      simpa using h2
    · rintro ⟨h1, h2⟩
      have h3 : i ≠ j := by
        intro e
        subst e
        simp at h2
      refine ⟨by omega, ?_⟩
      rw [show i - j = (i - (j + 1)) + 1 by omega] at h2
      simpa using h2
  | .mk q :: l, j, i, p => by
    simp only [marksFrom, List.mem_cons]
    rw [marksFrom_get l (j + 1) i p]
    constructor
    · rintro (h | ⟨h1, h2⟩)
      · cases h
        exact ⟨Nat.le_refl _, by simp⟩
      · refine ⟨by omega, ?_⟩
        rw [show i - j = (i - (j + 1)) + 1 by omega]
        simpa using h2
    · rintro ⟨h1, h2⟩
      by_cases h3 : i = j
      · subst h3
        simp at h2
        exact Or.inl (by rw [h2])
      · refine Or.inr ⟨by omega, ?_⟩
        rw [show i - j = (i - (j + 1)) + 1 by omega] at h2
        simpa using h2
theorem marksFrom_lt {l : List Dt} {j i : Nat} {p : Mk} (h : (i, p) ∈ marksFrom j l) : j ≤ i ∧ i < j + l.length := by
  obtain ⟨h1, h2⟩ := (marksFrom_get l j i p).1 h
  have := (List.getElem?_eq_some_iff.1 h2).1
  omega

/-- Whether an opener goes with a closer. -/
def skips (p s : Mk) : Bool :=
  ((p.c == 42 || p.c == 95) && (p.co && p.cc || s.co && s.cc) && (p.n + s.n) % 3 == 0 && (p.n % 3 != 0 || s.n % 3 != 0)) || (p.c == 126 && p.k != s.k)
/-- The last opener of the list that goes with a closer. -/
def findOp (l : List (Nat × Mk)) (p : Mk) : Option (Nat × Mk) := l.reverse.find? (fun x => !skips p x.2)
/-- How many signs a closer and an opener give. -/
def take2 (p s : Mk) : Nat := if 2 ≤ p.k ∧ 2 ≤ s.k then 2 else 1
/-- The opener at place j and a closer become a node. -/
def closeAt (l : List Dt) (j : Nat) (s p : Mk) : List Dt :=
  l.take j ++ (if s.k = take2 p s then [] else [.mk { s with k := s.k - take2 p s }]) ++ [.fin (emNode p.c (take2 p s) ((l.drop (j + 1)).map Dt.inl))]
def closeLoop : Nat → List Dt → Mk → List Dt × Mk
  | 0, l, p => (l, p)
  | f + 1, l, p => match findOp (stkOf (kIx p.c) l) p with
    | none => (l, p)
    | some (j, s) => if p.k = take2 p s then (closeAt l j s p, { p with k := 0 }) else closeLoop f (closeAt l j s p) { p with k := p.k - take2 p s }
/-- A closer's round. -/
def closed (l : List Dt) (p : Mk) : List Dt × Mk := if p.cc then closeLoop p.k l p else (l, p)
def emStep (l : List Dt) : Sr → List Dt
  | .fin t => l ++ [.fin t]
  | .opn t _ => l ++ [.fin (plainI t)]
  | .mk p => if (closed l p).2.k = 0 then (closed l p).1 else if p.co then (closed l p).1 ++ [.mk (closed l p).2] else (closed l p).1 ++ [.fin (plainI (run p.c (closed l p).2.k))]
def emDst (l : List Sr) : List Dt := l.foldl emStep []
/-- emph's list. -/
def emphM (l : List Sr) : List Inl := (emDst l).map Dt.inl

theorem emDst_snoc (l : List Sr) (x : Sr) : emDst (l ++ [x]) = emStep (emDst l) x := by simp [emDst, List.foldl_append]
theorem emDst_take {l : List Sr} {i : Nat} {x : Sr} (h : l[i]? = some x) : emDst (l.take (i + 1)) = emStep (emDst (l.take i)) x := by
  rw [List.take_add_one, h]
  exact emDst_snoc _ _
end Go.Proofs.YtmmopoofheblbaaGreatDoor.T

/- What emph holds from round to round, on any list of marks. -/
namespace Go.Proofs.YtmmopoofheblbaaGreatDoor.T
open Go Go.RowKit Go.Proofs

def Mk.Ok (p : Mk) : Prop := McOk p.c ∧ p.k ≤ 1000000 ∧ p.n ≤ 1000000
def markCells (p : Mk) (i : Int) : Array Value := #[.string (run p.c p.k), .bool p.co, .bool p.cc, .int .i64 i, .int .i64 p.n]
def MkAt (w : World) (p : Mk) (i : Int) : Prop := Blk w p.m (markCells p i) 268
def mkV (m : Nat) : Value := .iface 266 (.pointer (some ⟨m, 0, none⟩))
def ptrOf (x : Nat × Mk) : Value := .pointer (some ⟨x.2.m, 0, none⟩)
def DtAt (A : Nat → Prop) (w : World) (j : Nat) : Dt → Value → Prop
  | .fin t, v => InlAt A w t v
  | .mk p, v => v = mkV p.m ∧ MkAt w p j ∧ p.Ok ∧ 0 < p.k
def SrAt (A : Nat → Prop) (w : World) : Sr → Value → Prop
  | .fin t, v => InlAt A w t v ∧ t.ty ≠ 228 ∧ t.ty ≠ 266
  | .opn t i, v => ∃ b, v = .iface 228 (.pointer (some ⟨b, 0, none⟩)) ∧ Blk w b #[.string t, .int .i64 i] 231 ∧ ¬ A b
  | .mk p, v => v = mkV p.m ∧ (∃ i, MkAt w p i) ∧ p.Ok ∧ 0 < p.k

/-- What stays the same. -/
structure EE where
  A0 : Nat → Prop
  M0 : Nat → Prop
  w0 : World
  D : Nat
  S : Nat
  inp : Bool
  sg : Nat
  so : Nat
  sc : Nat
  n : Nat
  xs : List Value
  src : List Sr
/-- What changes. -/
structure ES where
  i : Nat
  da : Option Addr
  dc : Nat
  ys : List Value
  dst : List Dt
  hand : List Mk
  ka : Nat → Option Addr
  kc : Nat → Nat

def live (E : EE) (s : ES) : List Nat := liveD s.dst ++ (s.hand.map (fun p => p.m) ++ liveS (E.src.drop s.i))
/-- The blocks that trees avoid. -/
def Av (E : EE) (s : ES) : Nat → Prop := fun b => E.A0 b ∨ b ∈ live E s ∨ ∃ a, s.da = some a ∧ a.block = b
def stkV (s : ES) (q : Nat) : Value := .slice (s.ka q) (stkOf q s.dst).length (s.kc q)
def stkCells (s : ES) : Array Value := #[stkV s 0, stkV s 1, stkV s 2, .slice none 0 0, .slice none 0 0]

structure EmR (E : EE) (w : World) (s : ES) : Prop where
  mods : Mods E.M0 E.w0 w
  fD : E.w0.heap.size ≤ E.D
  fS : E.w0.heap.size ≤ E.S
  S : Blk w E.S (stkCells s) 281
  stk : ∀ q, q < 3 → w.ownsRow 0 266 1 (stkV s q) (stkOf q s.dst).length ((stkOf q s.dst).map ptrOf)
  fk : ∀ q a, q < 3 → s.ka q = some a → E.w0.heap.size ≤ a.block
  dk : ∀ q q' a a', q < 3 → q' < 3 → q ≠ q' → s.ka q = some a → s.ka q' = some a' → a.block ≠ a'.block
  fd : ∀ a, s.da = some a → E.M0 a.block ∨ E.w0.heap.size ≤ a.block
  len : s.ys.length = s.dst.length
  le : s.dst.length ≤ s.i
  dts : ∀ j d x, s.dst[j]? = some d → s.ys[j]? = some x → DtAt (Av E s) w j d x
  srs : ∀ j t x, s.i ≤ j → E.src[j]? = some t → E.xs[j]? = some x → SrAt (Av E s) w t x
  hnd : ∀ p, p ∈ s.hand → p.Ok ∧ ∃ i, MkAt w p i
  nodup : (live E s).Nodup
  lv : ∀ m, m ∈ live E s → E.M0 m ∧ ¬ E.A0 m
  a0 : ∀ b, E.A0 b → b < E.w0.heap.size
  sl : E.src.length = E.xs.length
  fi : ∀ a, s.da = some a → (E.inp = true ∧ a.block = E.sg) ∨ E.w0.heap.size ≤ a.block

structure EmG (E : EE) (w : World) (s : ES) : Prop where
  r : EmR E w s
  D : Blk w E.D #[.slice s.da s.ys.length s.dc] 84
  lst : Lst w E.inp E.sg E.so E.sc E.n E.xs s.i (.slice s.da s.ys.length s.dc) s.ys

theorem own_some {a : Option Addr} {n c b : Nat} (h : (Value.slice a n c).ownBlock = some b) : ∃ x, a = some x ∧ x.block = b := by
  cases a with
  | none => cases h
  | some x => exact ⟨x, rfl, Option.some.inj h⟩
theorem own_of {a : Option Addr} {n c b : Nat} (h : ∃ x, a = some x ∧ x.block = b) : (Value.slice a n c).ownBlock = some b := by
  obtain ⟨x, rfl, rfl⟩ := h
  rfl

theorem DtAt.keep {A A' X : Nat → Prop} {w w' : World} {j : Nat} {d : Dt} {x : Value} (h : DtAt A w j d x) (hm : Mods X w w') (hX : ∀ b cs T, Blk w b cs T → TreeTy T → X b → A b) (hA : ∀ b, A' b → A b ∨ w.heap.size ≤ b) (hmk : ∀ p, d = .mk p → ¬ X p.m) : DtAt A' w' j d x := by
  cases d with
  | fin t => exact InlAt.keep hm hX hA t x h
  | mk p =>
    obtain ⟨h1, h2, h3⟩ := h
    exact ⟨h1, Blk.keep h2 hm (hmk p rfl), h3⟩
theorem SrAt.keep {A A' X : Nat → Prop} {w w' : World} {d : Sr} {x : Value} (h : SrAt A w d x) (hm : Mods X w w') (hX : ∀ b cs T, Blk w b cs T → TreeTy T → X b → A b) (hA : ∀ b, A' b → A b ∨ w.heap.size ≤ b) (hmk : ∀ p, d = .mk p → ¬ X p.m) : SrAt A' w' d x := by
  cases d with
  | fin t => exact ⟨InlAt.keep hm hX hA t x h.1, h.2⟩
  | opn t i =>
    obtain ⟨b, h1, h2, h3⟩ := h
    have hl := h2.lt
    exact ⟨b, h1, h2.keep hm (fun hx => h3 (hX _ _ _ h2 (by decide) hx)), fun ha => (hA b ha).elim h3 (fun hh => by omega)⟩
  | mk p =>
    obtain ⟨h1, ⟨i, h2⟩, h3⟩ := h
    exact ⟨h1, ⟨i, Blk.keep h2 hm (hmk p rfl)⟩, h3⟩

/-- A change that touches the list that is made and its variable alone. -/
theorem EmR.keep {E : EE} {w w' : World} {s : ES} {X : Nat → Prop} (h : EmR E w s) (hm : Mods X w w') (hX : ∀ b cs T, Blk w b cs T → X b → T = 84 ∨ (T = 157 ∧ ∃ a, s.da = some a ∧ a.block = b))
    (hM : ∀ b, b < E.w0.heap.size → X b → E.M0 b) : EmR E w' s := by
  have hXt : ∀ b cs T, Blk w b cs T → TreeTy T → X b → Av E s b := fun b cs T hb hT hx => by
    rcases hX b cs T hb hx with h1 | ⟨_, h1⟩
    · rw [h1] at hT
      exact absurd hT (by decide)
    · exact Or.inr (Or.inr h1)
  have hXm : ∀ (p : Mk) i, MkAt w p i → ¬ X p.m := fun p i hp hx => by
    rcases hX _ _ _ hp hx with h1 | ⟨h1, _⟩
    · exact absurd h1 (by decide)
    · exact absurd h1 (by decide)
  have hA : ∀ b, Av E s b → Av E s b ∨ w.heap.size ≤ b := fun _ x => Or.inl x
  refine ⟨h.mods.then hm hM, h.fD, h.fS, h.S.keep hm (fun hx => ?_), fun q hq => ownsRow_keep (h.stk q hq) hm (fun g hg hx => ?_), h.fk, h.dk, h.fd, h.len, h.le, fun j d x h1 h2 => ?_, fun j t x h0 h1 h2 => ?_, fun p hp => ?_, h.nodup, h.lv, h.a0, h.sl, h.fi⟩
  · rcases hX _ _ _ h.S hx with h1 | ⟨h1, _⟩ <;> exact absurd h1 (by decide)
  · obtain ⟨cur, hb⟩ := row_blk (h.stk q hq) hg
    rcases hX _ _ _ hb hx with h1 | ⟨h1, _⟩ <;> exact absurd h1 (by decide)
  · refine (h.dts j d x h1 h2).keep hm hXt hA (fun p hp => ?_)
    subst hp
    exact hXm p j (h.dts j _ x h1 h2).2.1
  · refine (h.srs j t x h0 h1 h2).keep hm hXt hA (fun p hp => ?_)
    subst hp
    obtain ⟨_, ⟨i, hi⟩, _⟩ := h.srs j _ x h0 h1 h2
    exact hXm p i hi
  · obtain ⟨h1, i, h2⟩ := h.hnd p hp
    exact ⟨h1, i, Blk.keep h2 hm (hXm p i h2)⟩

theorem EmR.same {E : EE} {w w' : World} {s : ES} (h : EmR E w s) (hm : Same w w') : EmR E w' s := h.keep hm (fun _ _ _ _ x => absurd x (fun x => x)) (fun _ _ x => absurd x (fun x => x))
theorem EmG.same {E : EE} {w w' : World} {s : ES} (h : EmG E w s) (hm : Same w w') : EmG E w' s := ⟨h.r.same hm, hm.blk h.D, h.lst.same hm⟩

/-- A change of what emph holds, with what it has to show. -/
theorem EmR.to {E : EE} {w w' : World} {s s' : ES} {X : Nat → Prop} (h : EmR E w s) (hm : Mods X w w') (hM : ∀ b, b < E.w0.heap.size → X b → E.M0 b)
    (hXt : ∀ b cs T, Blk w b cs T → TreeTy T → X b → Av E s b)
    (hS : Blk w' E.S (stkCells s') 281)
    (hstk : ∀ q, q < 3 → w'.ownsRow 0 266 1 (stkV s' q) (stkOf q s'.dst).length ((stkOf q s'.dst).map ptrOf))
    (hfk : ∀ q a, q < 3 → s'.ka q = some a → E.w0.heap.size ≤ a.block)
    (hdk : ∀ q q' a a', q < 3 → q' < 3 → q ≠ q' → s'.ka q = some a → s'.ka q' = some a' → a.block ≠ a'.block)
    (hfd : ∀ a, s'.da = some a → E.M0 a.block ∨ E.w0.heap.size ≤ a.block)
    (hda : ∀ a, s'.da = some a → (∃ a0, s.da = some a0 ∧ a0.block = a.block) ∨ w.heap.size ≤ a.block)
    (hlen : s'.ys.length = s'.dst.length) (hle : s'.dst.length ≤ s'.i) (hi : s.i ≤ s'.i)
    (hd : ∀ j d x, s'.dst[j]? = some d → s'.ys[j]? = some x → (s.dst[j]? = some d ∧ s.ys[j]? = some x) ∨ DtAt (Av E s') w' j d x)
    (hdm : ∀ (j : Nat) (p : Mk), s.dst[j]? = some (.mk p) → s'.dst[j]? = some (.mk p) → ¬ X p.m)
    (hsm : ∀ (j : Nat) (p : Mk), s'.i ≤ j → E.src[j]? = some (.mk p) → ¬ X p.m)
    (hh : ∀ p : Mk, p ∈ s'.hand → p.Ok ∧ ∃ i, MkAt w' p i)
    (hnd : (live E s').Nodup) (hlv : ∀ m, m ∈ live E s' → m ∈ live E s) : EmR E w' s' := by
  have hA : ∀ b, Av E s' b → Av E s b ∨ w.heap.size ≤ b := by
    rintro b (h1 | h1 | ⟨a, h1, rfl⟩)
    · exact Or.inl (Or.inl h1)
    · exact Or.inl (Or.inr (Or.inl (hlv b h1)))
    · rcases hda a h1 with ⟨a0, h2, h3⟩ | h2
      · exact Or.inl (Or.inr (Or.inr ⟨a0, h2, h3⟩))
      · exact Or.inr h2
  refine ⟨h.mods.then hm hM, h.fD, h.fS, hS, hstk, hfk, hdk, hfd, hlen, hle, fun j d x h1 h2 => ?_, fun j t x h0 h1 h2 => ?_, hh, hnd, fun m hm => h.lv m (hlv m hm), h.a0, h.sl, fun a ha => ?_⟩
  · rcases hd j d x h1 h2 with ⟨h3, h4⟩ | h3
    · refine (h.dts j d x h3 h4).keep hm hXt hA (fun p hp => ?_)
      subst hp
      exact hdm j p h3 h1
    · exact h3
  · refine (h.srs j t x (by omega) h1 h2).keep hm hXt hA (fun p hp => ?_)
    subst hp
    exact hsm j p h0 h1
  · rcases hda a ha with ⟨a0, h2, h3⟩ | h2
    · have := h.fi a0 h2
      rw [h3] at this
      exact this
    · have := h.mods.size
      exact Or.inr (by omega)

theorem EmR.srcMk {E : EE} {w : World} {s : ES} (h : EmR E w s) (j : Nat) (p : Mk) (h0 : s.i ≤ j) (h1 : E.src[j]? = some (.mk p)) : ∃ i, MkAt w p i := by
  obtain ⟨x, hx⟩ : ∃ x, E.xs[j]? = some x := ⟨_, List.getElem?_eq_getElem (by have := (List.getElem?_eq_some_iff.1 h1).1; have := h.sl; omega)⟩
  exact (h.srs j _ x h0 h1 hx).2.1
theorem EmR.dstMk {E : EE} {w : World} {s : ES} (h : EmR E w s) (j : Nat) (p : Mk) (h1 : s.dst[j]? = some (.mk p)) : s.ys[j]? = some (mkV p.m) ∧ MkAt w p j ∧ p.Ok ∧ 0 < p.k := by
  obtain ⟨x, hx⟩ : ∃ x, s.ys[j]? = some x := ⟨_, List.getElem?_eq_getElem (by have := (List.getElem?_eq_some_iff.1 h1).1; have := h.len; omega)⟩
  obtain ⟨a, b⟩ := h.dts j _ x h1 hx
  exact ⟨by rw [hx, a], b⟩
theorem stkOf_fin (q : Nat) (l : List Dt) (t : Inl) : stkOf q (l ++ [.fin t]) = stkOf q l := by
  simp [stkOf, marksFrom_append, marksFrom]
theorem stkOf_mk (q : Nat) (l : List Dt) (p : Mk) : stkOf q (l ++ [.mk p]) = if kIx p.c = q then stkOf q l ++ [(l.length, p)] else stkOf q l := by
  simp only [stkOf, marksFrom_append, marksFrom, List.filter_append, Nat.zero_add]
  by_cases h : kIx p.c = q
  · simp [h]
  · simp [h]
theorem liveD_fin (l : List Dt) (t : Inl) : liveD (l ++ [.fin t]) = liveD l := by simp [liveD, marksFrom_append, marksFrom]
theorem liveD_mk (l : List Dt) (p : Mk) : liveD (l ++ [.mk p]) = liveD l ++ [p.m] := by simp [liveD, marksFrom_append, marksFrom]
theorem liveS_mem {l : List Sr} {j : Nat} {p : Mk} (h : l[j]? = some (.mk p)) : p.m ∈ liveS l := by
  induction l generalizing j with
  | nil => simp at h
  | cons x l ih =>
    cases j with
    | zero => simp at h; subst h; simp [liveS]
    | succ j =>
      have := ih (by simpa using h)
      cases x <;> simp [liveS, this]
theorem liveD_mem {l : List Dt} {j : Nat} {p : Mk} (h : l[j]? = some (.mk p)) : p.m ∈ liveD l :=
  List.mem_map.2 ⟨(j, p), (marksFrom_get l 0 j p).2 ⟨Nat.zero_le _, by simpa using h⟩, rfl⟩

theorem getElem?_snoc {α : Type} {l : List α} {a x : α} {j : Nat} (h : (l ++ [a])[j]? = some x) : l[j]? = some x ∨ (j = l.length ∧ x = a) := by
  rcases Nat.lt_or_ge j l.length with hj | hj
  · rw [List.getElem?_append_left hj] at h
    exact Or.inl h
  · have hj2 : j < (l ++ [a]).length := (List.getElem?_eq_some_iff.1 h).1
    have hj3 : j = l.length := by simp at hj2; omega
    subst hj3
    rw [List.getElem?_append_right (Nat.le_refl _)] at h
    simp at h
    exact Or.inr ⟨rfl, h.symm⟩

/-- A tree is put behind what was made. -/
theorem EmG.pushFin {E : EE} {w w1 w2 : World} {s : ES} (h : EmG E w s) (t : Inl) (v : Value) (g dc : Nat) (h1 : Same w w1) (hv : InlAt (Av E s) w t v) (hlt : s.dst.length < s.i) (hn0 : 0 < E.n)
    (hL : Lst w2 E.inp E.sg E.so E.sc E.n E.xs s.i (.slice (some ⟨g, 0, none⟩) (s.ys.length + 1) dc) (s.ys ++ [v])) (hm : Mods (fun k => (Value.slice s.da s.ys.length s.dc).ownBlock = some k) w1 w2)
    (hloc : (Value.slice s.da s.ys.length s.dc).ownBlock = some g ∨ g = w1.heap.size) :
    EmG E (w2.setCell ⟨E.D, 0, none⟩ (.slice (some ⟨g, 0, none⟩) (s.ys.length + 1) dc)) { s with da := some ⟨g, 0, none⟩, dc := dc, ys := s.ys ++ [v], dst := s.dst ++ [.fin t] } := by
  have hz := h1.size
  have hX : ∀ b, ((Value.slice s.da s.ys.length s.dc).ownBlock = some b ∨ b = E.D) → b = E.D ∨ ∃ a, s.da = some a ∧ a.block = b := by
    rintro b (hb | hb)
    · exact Or.inr (own_some hb)
    · exact Or.inl hb
  have hm2 : Mods (fun k => (Value.slice s.da s.ys.length s.dc).ownBlock = some k ∨ k = E.D) w w2 :=
    (h1.mono (S' := fun k => (Value.slice s.da s.ys.length s.dc).ownBlock = some k ∨ k = E.D) (fun _ _ x => absurd x (fun x => x))).then hm (fun _ _ x => Or.inl x)
  have hm3 := hm2.setCell (p := ⟨E.D, 0, none⟩) (fun _ => Or.inr rfl) (.slice (some ⟨g, 0, none⟩) (s.ys.length + 1) dc)
  have hD1 := h1.blk h.D
  have hDne : ¬ (Value.slice s.da s.ys.length s.dc).ownBlock = some E.D := fun e => by
    have hr := (h.lst.same h1).row
    exact own_ne hr hD1 (by decide) e
  have hD2 := hD1.keep hm hDne
  have hgD : g ≠ E.D := fun e => by
    have hr := hL.row
    have := own_ne hr hD2 (by decide)
    exact this (by rw [e]; rfl)
  have hR := h.r
  refine ⟨?_, ?_, ?_⟩
  · have hXb : ∀ b cs T, Blk w b cs T → ((Value.slice s.da s.ys.length s.dc).ownBlock = some b ∨ b = E.D) → T = 84 ∨ (T = 157 ∧ ∃ a, s.da = some a ∧ a.block = b) := by
      rintro b cs T hb (hx | hx)
      · refine Or.inr ⟨?_, own_some hx⟩
        obtain ⟨cur, hc⟩ := row_blk h.lst.row hx
        unfold Blk at hb hc
        rw [hb] at hc
        cases hc
        rfl
      · subst hx
        have hd := h.D
        unfold Blk at hb hd
        rw [hb] at hd
        cases hd
        exact Or.inl rfl
    have hMM : ∀ b, b < E.w0.heap.size → ((Value.slice s.da s.ys.length s.dc).ownBlock = some b ∨ b = E.D) → E.M0 b := by
      intro b hb hx
      rcases hX b hx with rfl | ⟨a, ha, rfl⟩
      · have := hR.fD; omega
      · exact (hR.fd a ha).elim (fun x => x) (fun x => by omega)
    have hK := hR.keep hm3 hXb hMM
    have hst : ∀ q, stkOf q (s.dst ++ [.fin t]) = stkOf q s.dst := fun q => stkOf_fin q s.dst t
    have hlive : live E { s with da := some ⟨g, 0, none⟩, dc := dc, ys := s.ys ++ [v], dst := s.dst ++ [.fin t] } = live E s := by
      simp [live, liveD_fin]
    have hXt : ∀ b cs T, Blk w b cs T → TreeTy T → ((Value.slice s.da s.ys.length s.dc).ownBlock = some b ∨ b = E.D) → Av E s b := fun b cs T hb hT hx => by
      rcases hXb b cs T hb hx with e | ⟨_, e⟩
      · rw [e] at hT; exact absurd hT (by decide)
      · exact Or.inr (Or.inr e)
    have hXm : ∀ (p : Mk) i, MkAt w p i → ¬ ((Value.slice s.da s.ys.length s.dc).ownBlock = some p.m ∨ p.m = E.D) := fun p i hp hx => by
      rcases hXb _ _ _ hp hx with e | ⟨e, _⟩ <;> exact absurd e (by decide)
    have hgl : (∃ a0, s.da = some a0 ∧ a0.block = g) ∨ w.heap.size ≤ g := by
      rcases hloc with e | e
      · exact Or.inl (own_some e)
      · right; omega
    have hsv : ∀ q, stkV { s with da := some ⟨g, 0, none⟩, dc := dc, ys := s.ys ++ [v], dst := s.dst ++ [.fin t] } q = stkV s q := fun q => by simp [stkV, hst]
    refine hR.to hm3 hMM hXt ?_ ?_ hR.fk hR.dk ?_ ?_ ?_ ?_ (Nat.le_refl _) ?_ ?_ ?_ (fun p hp => hK.hnd p hp) (by rw [hlive]; exact hR.nodup) (fun m hm => by rw [hlive] at hm; exact hm)
    · have : stkCells { s with da := some ⟨g, 0, none⟩, dc := dc, ys := s.ys ++ [v], dst := s.dst ++ [.fin t] } = stkCells s := by simp [stkCells, hsv]
      rw [this]
      exact hK.S
    · intro q hq
      rw [hsv, hst]
      exact hK.stk q hq
    · intro a ha
      cases ha
      rcases hgl with ⟨a0, h2, h3⟩ | h2
      · have := hR.fd a0 h2
        rw [h3] at this
        exact this
      · right
        have := hR.mods.size
        show E.w0.heap.size ≤ g
        omega
    · intro a ha
      cases ha
      exact hgl
    · simp [hR.len]
    · simp
      omega
    · intro j d x h2 h3
      rcases getElem?_snoc h2 with h4 | ⟨rfl, rfl⟩
      · rcases getElem?_snoc h3 with h5 | ⟨rfl, rfl⟩
        · exact Or.inl ⟨h4, h5⟩
        · have := (List.getElem?_eq_some_iff.1 h4).1
          have := hR.len
          omega
      · rcases getElem?_snoc h3 with h5 | ⟨_, rfl⟩
        · have := (List.getElem?_eq_some_iff.1 h5).1
          have := hR.len
          omega
        · right
          refine InlAt.keep hm3 hXt ?_ t _ hv
          rintro b (hb | hb | ⟨a, ha, rfl⟩)
          · exact Or.inl (Or.inl hb)
          · rw [hlive] at hb
            exact Or.inl (Or.inr (Or.inl hb))
          · cases ha
            rcases hgl with e | e
            · exact Or.inl (Or.inr (Or.inr e))
            · exact Or.inr e
    · intro j p h2 _
      obtain ⟨x, hx⟩ : ∃ x, s.ys[j]? = some x := ⟨_, List.getElem?_eq_getElem (by have := (List.getElem?_eq_some_iff.1 h2).1; have := hR.len; omega)⟩
      exact hXm p j (hR.dts j _ x h2 hx).2.1
    · intro j p h0 h2
      obtain ⟨i, hi⟩ := hR.srcMk j p h0 h2
      exact hXm p i hi
  · have e : (s.ys ++ [v]).length = s.ys.length + 1 := by simp
    show Blk _ E.D #[.slice (some ⟨g, 0, none⟩) (s.ys ++ [v]).length dc] _
    rw [e]
    exact hD2.set_same 0 _
  · have e : (s.ys ++ [v]).length = s.ys.length + 1 := by simp
    show Lst _ _ _ _ _ _ _ _ (.slice (some ⟨g, 0, none⟩) (s.ys ++ [v]).length dc) _
    rw [e]
    refine hL.keep ((Mods.refl (fun k => k = E.D) w2).setCell (p := ⟨E.D, 0, none⟩) (fun _ => rfl) _) ?_ (fun b hb e => ?_)
    · intro e
      obtain ⟨cur, hc⟩ := hL.sgblk (by omega)
      exact hc.ne_of_type hD2 (by decide) e
    · cases hb
      exact hgD e
end Go.Proofs.YtmmopoofheblbaaGreatDoor.T

/- emph's state: a value is taken from the list, a mark is put on its stack. -/
namespace Go.Proofs.YtmmopoofheblbaaGreatDoor.T
open Go Go.RowKit Go.Proofs

def handOf : Sr → List Mk
  | .mk p => [p]
  | _ => []
theorem liveS_drop {l : List Sr} {i : Nat} {x : Sr} (h : l[i]? = some x) : liveS (l.drop i) = (handOf x).map (fun p => p.m) ++ liveS (l.drop (i + 1)) := by
  have hi := (List.getElem?_eq_some_iff.1 h).1
  have hx := (List.getElem?_eq_some_iff.1 h).2
  rw [List.drop_eq_getElem_cons hi, hx]
  cases x <;> simp [liveS, handOf]

def ES.next (s : ES) (x : Sr) : ES := { s with i := s.i + 1, hand := handOf x }
theorem live_next {E : EE} {s : ES} {x : Sr} (hh : s.hand = []) (h : E.src[s.i]? = some x) : live E (s.next x) = live E s := by
  show liveD s.dst ++ ((handOf x).map (fun p => p.m) ++ liveS (E.src.drop (s.i + 1))) = liveD s.dst ++ (s.hand.map (fun p => p.m) ++ liveS (E.src.drop s.i))
  rw [hh, liveS_drop h]
  simp
theorem av_next {E : EE} {s : ES} {x : Sr} (hh : s.hand = []) (h : E.src[s.i]? = some x) : Av E (s.next x) = Av E s := by
  funext b
  simp only [Av, live_next hh h]
  rfl

/-- The next value of the list is taken. -/
theorem EmG.next {E : EE} {w : World} {s : ES} (h : EmG E w s) (hh : s.hand = []) (x : Sr) (hx : E.src[s.i]? = some x) : EmG E w (s.next x) := by
  have hR := h.r
  have hi := (List.getElem?_eq_some_iff.1 hx).1
  refine ⟨hR.to (X := fun _ => False) (Mods.refl _ w) (fun _ _ x => absurd x (fun x => x)) (fun _ _ _ _ _ x => absurd x (fun x => x)) hR.S hR.stk hR.fk hR.dk hR.fd (fun a ha => Or.inl ⟨a, ha, rfl⟩) hR.len (Nat.le_trans hR.le (Nat.le_succ _)) (Nat.le_succ _) (fun j d x h1 h2 => Or.inl ⟨h1, h2⟩) (fun _ _ _ _ x => x) (fun _ _ _ _ x => x) ?_ (by rw [live_next hh hx]; exact hR.nodup) (fun m hm => by rw [live_next hh hx] at hm; exact hm), h.D, h.lst.step⟩
  intro p hp
  cases x with
  | fin t => cases hp
  | opn t i => cases hp
  | mk q =>
    have hp' : p = q := by simpa [ES.next, handOf] using hp
    subst hp'
    obtain ⟨y, hy⟩ : ∃ y, E.xs[s.i]? = some y := ⟨_, List.getElem?_eq_getElem (by have := hR.sl; omega)⟩
    obtain ⟨_, h2, h3, _⟩ := hR.srs s.i _ y (Nat.le_refl _) hx hy
    exact ⟨h3, h2⟩

/-- Nothing is in hand any more. -/
theorem EmG.drop {E : EE} {w : World} {s : ES} (h : EmG E w s) : EmG E w { s with hand := [] } := by
  have hR := h.r
  have hsub : (live E { s with hand := [] }).Sublist (live E s) := by
    show (liveD s.dst ++ ([] ++ liveS (E.src.drop s.i))).Sublist _
    exact List.Sublist.append (List.Sublist.refl _) (List.Sublist.append (List.nil_sublist _) (List.Sublist.refl _))
  exact ⟨hR.to (X := fun _ => False) (Mods.refl _ w) (fun _ _ x => absurd x (fun x => x)) (fun _ _ _ _ _ x => absurd x (fun x => x)) hR.S hR.stk hR.fk hR.dk hR.fd (fun a ha => Or.inl ⟨a, ha, rfl⟩) hR.len hR.le (Nat.le_refl _) (fun j d x h1 h2 => Or.inl ⟨h1, h2⟩) (fun _ _ _ _ x => x) (fun _ _ _ _ x => x) (fun p hp => by cases hp) (hR.nodup.sublist hsub) (fun m hm => hsub.subset hm), h.D, h.lst⟩

/-- The place of the mark in hand is written down. -/
theorem EmG.setPlace {E : EE} {w : World} {s : ES} (h : EmG E w s) (p : Mk) (hh : s.hand = [p]) (v : Int) (hn0 : 0 < E.n) : EmG E (w.setCell ⟨p.m, 3, none⟩ (.int .i64 v)) s ∧ MkAt (w.setCell ⟨p.m, 3, none⟩ (.int .i64 v)) p v := by
  have hR := h.r
  obtain ⟨hok, i, hp⟩ := hR.hnd p (by rw [hh]; exact List.mem_singleton_self _)
  have hm : Mods (fun k => k = p.m) w (w.setCell ⟨p.m, 3, none⟩ (.int .i64 v)) := (Mods.refl (fun k => k = p.m) w).setCell (p := ⟨p.m, 3, none⟩) (fun _ => rfl) _
  have hp' : MkAt (w.setCell ⟨p.m, 3, none⟩ (.int .i64 v)) p v := Blk.set_same hp 3 _
  have hin : p.m ∈ live E s := List.mem_append_right _ (List.mem_append_left _ (by rw [hh]; simp))
  have hD : p.m ≠ E.D := Blk.ne_of_type hp h.D (by decide)
  have hS : p.m ≠ E.S := Blk.ne_of_type hp hR.S (by decide)
  have hnd := hR.nodup
  unfold live at hnd
  rw [hh] at hnd
  have hrow : ∀ {e size n : Nat} {u : Value} {l : List Value}, w.ownsRow 0 e size u n l → e ≠ 268 → ∀ g, u.ownBlock = some g → ¬ g = p.m := fun hr he g hg e => by
    subst e
    exact own_ne hr hp (Ne.symm he) hg
  refine ⟨⟨hR.to hm (fun b _ hb => by subst hb; exact (hR.lv _ hin).1) (fun b cs T _ _ hb => by subst hb; exact Or.inr (Or.inl hin)) (hR.S.keep hm (fun e => hS e.symm)) (fun q hq => ownsRow_keep (hR.stk q hq) hm (hrow (hR.stk q hq) (by decide))) hR.fk hR.dk hR.fd (fun a ha => Or.inl ⟨a, ha, rfl⟩) hR.len hR.le (Nat.le_refl _) (fun j d x h1 h2 => Or.inl ⟨h1, h2⟩) ?_ ?_ ?_ hR.nodup (fun m hm => hm), h.D.keep hm (fun e => hD e.symm), h.lst.keep hm ?_ (hrow h.lst.row (by decide))⟩, hp'⟩
  · intro j q h1 _ e
    have h3 := liveD_mem h1
    have := (List.nodup_append.1 hnd).2.2 q.m h3 p.m (by simp)
    exact this e
  · intro j q h0 h1 e
    have h3 : q.m ∈ liveS (E.src.drop s.i) := liveS_mem (j := j - s.i) (by rw [List.getElem?_drop, show s.i + (j - s.i) = j by omega]; exact h1)
    have h4 := (List.nodup_append.1 hnd).2.1
    simp only [List.map_cons, List.map_nil, List.singleton_append, List.nodup_cons] at h4
    exact h4.1 (e ▸ h3)
  · intro q hq
    rw [hh] at hq
    have : q = p := List.mem_singleton.1 hq
    subst this
    exact ⟨hok, v, hp'⟩
  · intro e
    obtain ⟨cur, hc⟩ := h.lst.sgblk hn0
    exact hc.ne_of_type hp (by decide) e

def ES.push (s : ES) (p : Mk) (g dc g' c' : Nat) : ES :=
  { s with da := some ⟨g, 0, none⟩, dc := dc, ys := s.ys ++ [mkV p.m], dst := s.dst ++ [.mk p], hand := [], ka := fun q => if q = kIx p.c then some ⟨g', 0, none⟩ else s.ka q, kc := fun q => if q = kIx p.c then c' else s.kc q }

theorem stkCells_push (s : ES) (p : Mk) (g dc g' c' : Nat) : stkCells (s.push p g dc g' c') = (stkCells s).setIfInBounds (kIx p.c) (.slice (some ⟨g', 0, none⟩) ((stkOf (kIx p.c) s.dst).length + 1) c') := by
  have hq := kIx_lt p.c
  have e : ∀ q, stkV (s.push p g dc g' c') q = if q = kIx p.c then .slice (some ⟨g', 0, none⟩) ((stkOf (kIx p.c) s.dst).length + 1) c' else stkV s q := by
    intro q
    unfold stkV ES.push
    simp only [stkOf_mk]
    by_cases h : q = kIx p.c
    · subst h; simp
    · simp [h, Ne.symm h]
  have hc : kIx p.c = 0 ∨ kIx p.c = 1 ∨ kIx p.c = 2 := by omega
  simp only [stkCells, e]
  rcases hc with h | h | h <;> rw [h] <;> simp [Array.setIfInBounds]

/-- The mark in hand goes behind what was made, and on its stack. -/
theorem EmG.pushMk {E : EE} {w w1 w2 w3 w4 : World} {s : ES} (h : EmG E w s) (p : Mk) (hh : s.hand = [p]) (hp : MkAt w p s.dst.length) (hk0 : 0 < p.k) (g dc g' c' : Nat) (h1 : Same w w1) (hlt : s.dst.length < s.i) (hn0 : 0 < E.n)
    (hL : Lst w2 E.inp E.sg E.so E.sc E.n E.xs s.i (.slice (some ⟨g, 0, none⟩) (s.ys.length + 1) dc) (s.ys ++ [mkV p.m])) (hm : Mods (fun k => (Value.slice s.da s.ys.length s.dc).ownBlock = some k) w1 w2)
    (hloc : (Value.slice s.da s.ys.length s.dc).ownBlock = some g ∨ g = w1.heap.size) (h3 : Same (w2.setCell ⟨E.D, 0, none⟩ (.slice (some ⟨g, 0, none⟩) (s.ys.length + 1) dc)) w3)
    (hrow : w4.ownsRow 0 266 1 (.slice (some ⟨g', 0, none⟩) ((stkOf (kIx p.c) s.dst).length + 1) c') ((stkOf (kIx p.c) s.dst).length + 1) ((stkOf (kIx p.c) s.dst).map ptrOf ++ [.pointer (some ⟨p.m, 0, none⟩)]))
    (hm4 : Mods (fun k => (stkV s (kIx p.c)).ownBlock = some k) w3 w4) (hloc' : (stkV s (kIx p.c)).ownBlock = some g' ∨ g' = w3.heap.size) :
    EmG E (w4.setCell ⟨E.S, kIx p.c, none⟩ (.slice (some ⟨g', 0, none⟩) ((stkOf (kIx p.c) s.dst).length + 1) c')) (s.push p g dc g' c') := by
  have hR := h.r
  have hq := kIx_lt p.c
  obtain ⟨hok, _⟩ := hR.hnd p (by rw [hh]; exact List.mem_singleton_self _)
  generalize hX : (fun b => (Value.slice s.da s.ys.length s.dc).ownBlock = some b ∨ b = E.D ∨ (stkV s (kIx p.c)).ownBlock = some b ∨ b = E.S) = X
  have hm5 : Mods X w (w4.setCell ⟨E.S, kIx p.c, none⟩ (.slice (some ⟨g', 0, none⟩) ((stkOf (kIx p.c) s.dst).length + 1) c')) := by
    subst hX
    have a1 := h1.mono (S' := fun b => (Value.slice s.da s.ys.length s.dc).ownBlock = some b ∨ b = E.D ∨ (stkV s (kIx p.c)).ownBlock = some b ∨ b = E.S) (fun _ _ x => absurd x (fun x => x))
    have a2 := (a1.then hm (fun _ _ x => Or.inl x)).setCell (p := ⟨E.D, 0, none⟩) (fun _ => Or.inr (Or.inl rfl)) (.slice (some ⟨g, 0, none⟩) (s.ys.length + 1) dc)
    have a3 := (a2.then h3 (fun _ _ x => absurd x (fun x => x))).then hm4 (fun _ _ x => Or.inr (Or.inr (Or.inl x)))
    exact a3.setCell (p := ⟨E.S, kIx p.c, none⟩) (fun _ => Or.inr (Or.inr (Or.inr rfl))) _
  -- what the change may touch, by types
  have hXb : ∀ b cs T, Blk w b cs T → X b → T = 84 ∨ T = 281 ∨ (T = 266 ∧ (stkV s (kIx p.c)).ownBlock = some b) ∨ (T = 157 ∧ ∃ a, s.da = some a ∧ a.block = b) := by
    subst hX
    rintro b cs T hb (hx | hx | hx | hx)
    · obtain ⟨cur, hc⟩ := row_blk h.lst.row hx
      unfold Blk at hb hc
      rw [hb] at hc
      cases hc
      exact Or.inr (Or.inr (Or.inr ⟨rfl, own_some hx⟩))
    · subst hx
      have hd := h.D
      unfold Blk at hb hd
      rw [hb] at hd
      cases hd
      exact Or.inl rfl
    · obtain ⟨cur, hc⟩ := row_blk (hR.stk _ hq) hx
      unfold Blk at hb hc
      rw [hb] at hc
      cases hc
      exact Or.inr (Or.inr (Or.inl ⟨rfl, hx⟩))
    · subst hx
      have hd := hR.S
      unfold Blk at hb hd
      rw [hb] at hd
      cases hd
      exact Or.inr (Or.inl rfl)
  have hXm : ∀ (q : Mk) i, MkAt w q i → ¬ X q.m := fun q i hq hx => by
    rcases hXb _ _ _ hq hx with e | e | ⟨e, _⟩ | ⟨e, _⟩ <;> exact absurd e (by decide)
  have hlive : live E (s.push p g dc g' c') = live E s := by
    show liveD (s.dst ++ [.mk p]) ++ ([] ++ liveS (E.src.drop s.i)) = liveD s.dst ++ (s.hand.map (fun p => p.m) ++ liveS (E.src.drop s.i))
    rw [liveD_mk, hh]
    simp
  have hz := h1.size
  have hgl : (∃ a0, s.da = some a0 ∧ a0.block = g) ∨ w.heap.size ≤ g := by
    rcases hloc with e | e
    · exact Or.inl (own_some e)
    · right; omega
  have hz3 : w.heap.size ≤ w3.heap.size := by
    have b1 := hm.size
    have b2 := h3.size
    simp at b2
    omega
  have hgl' : (stkV s (kIx p.c)).ownBlock = some g' ∨ w.heap.size ≤ g' := hloc'.imp (fun x => x) (fun e => by omega)
  have hw0 := hR.mods.size
  have hSw4 : Blk w4 E.S (stkCells s) 281 := by
    have c1 := (h1.blk hR.S)
    have c2 := c1.keep hm (fun e => own_ne (h.lst.same h1).row c1 (by decide) e)
    have c3 := h3.blk (c2.set_other (a := ⟨E.D, 0, none⟩) (by intro e; exact (c2.ne_of_type ((h1.blk h.D).keep hm (fun e => own_ne (h.lst.same h1).row (h1.blk h.D) (by decide) e)) (by decide)) e.symm) (.slice (some ⟨g, 0, none⟩) (s.ys.length + 1) dc))
    exact c3.keep hm4 (fun e => own_ne (hR.stk _ hq) hR.S (by decide) e)
  have hDw2 : Blk w2 E.D #[.slice s.da s.ys.length s.dc] 84 := (h1.blk h.D).keep hm (fun e => own_ne (h.lst.same h1).row (h1.blk h.D) (by decide) e)
  have hDw3 := h3.blk (hDw2.set_same 0 (.slice (some ⟨g, 0, none⟩) (s.ys.length + 1) dc))
  have hDw4 := hDw3.keep hm4 (fun e => own_ne (hR.stk _ hq) h.D (by decide) e)
  have hDS : E.D ≠ E.S := h.D.ne_of_type hR.S (by decide)
  have e1 : (s.ys ++ [mkV p.m]).length = s.ys.length + 1 := by simp
  have hrow' : (w4.setCell ⟨E.S, kIx p.c, none⟩ (.slice (some ⟨g', 0, none⟩) ((stkOf (kIx p.c) s.dst).length + 1) c')).ownsRow 0 266 1 (.slice (some ⟨g', 0, none⟩) ((stkOf (kIx p.c) s.dst).length + 1) c') ((stkOf (kIx p.c) s.dst).length + 1) ((stkOf (kIx p.c) s.dst).map ptrOf ++ [.pointer (some ⟨p.m, 0, none⟩)]) :=
    ownsRow_keep hrow ((Mods.refl (fun k => k = E.S) w4).setCell (p := ⟨E.S, kIx p.c, none⟩) (fun _ => rfl) _) (fun b hb e => by subst e; exact own_ne hrow hSw4 (by decide) hb)
  refine ⟨hR.to hm5 ?_ ?_ ?_ ?_ ?_ ?_ ?_ ?_ ?_ ?_ (Nat.le_refl _) ?_ ?_ ?_ (fun q hq => by cases hq) (by rw [hlive]; exact hR.nodup) (fun m hm => by rw [hlive] at hm; exact hm), ?_, ?_⟩
  · intro b hb hx
    subst hX
    rcases hx with hx | hx | hx | hx
    · obtain ⟨a, ha, rfl⟩ := own_some hx
      exact (hR.fd a ha).elim (fun x => x) (fun x => by omega)
    · subst hx; have := hR.fD; omega
    · obtain ⟨a, ha, rfl⟩ := own_some hx
      have := hR.fk _ a hq ha
      omega
    · subst hx; have := hR.fS; omega
  · intro b cs T hb hT hx
    rcases hXb b cs T hb hx with e | e | ⟨e, _⟩ | ⟨_, e⟩
    · rw [e] at hT; exact absurd hT (by decide)
    · rw [e] at hT; exact absurd hT (by decide)
    · rw [e] at hT; exact absurd hT (by decide)
    · exact Or.inr (Or.inr e)
  · rw [stkCells_push]
    exact hSw4.set_same _ _
  · intro q hq3
    by_cases hqe : q = kIx p.c
    · subst hqe
      have e2 : stkV (s.push p g dc g' c') (kIx p.c) = .slice (some ⟨g', 0, none⟩) ((stkOf (kIx p.c) s.dst).length + 1) c' := by simp [stkV, ES.push, stkOf_mk]
      have e3 : stkOf (kIx p.c) (s.push p g dc g' c').dst = stkOf (kIx p.c) s.dst ++ [(s.dst.length, p)] := by simp [ES.push, stkOf_mk]
      rw [e2, e3]
      simpa [ptrOf] using hrow'
    · have e2 : stkV (s.push p g dc g' c') q = stkV s q := by simp [stkV, ES.push, stkOf_mk, hqe, Ne.symm hqe]
      have e3 : stkOf q (s.push p g dc g' c').dst = stkOf q s.dst := by simp [ES.push, stkOf_mk, Ne.symm hqe]
      rw [e2, e3]
      refine ownsRow_keep (hR.stk q hq3) hm5 (fun b hb hx => ?_)
      obtain ⟨cur, hc⟩ := row_blk (hR.stk q hq3) hb
      rcases hXb b _ _ hc hx with e | e | ⟨_, e⟩ | ⟨e, _⟩
      · exact absurd e (by decide)
      · exact absurd e (by decide)
      · obtain ⟨a, ha, hab⟩ := own_some hb
        obtain ⟨a', ha', hab'⟩ := own_some e
        exact hR.dk q (kIx p.c) a a' hq3 hq hqe ha ha' (by rw [hab, hab'])
      · exact absurd e (by decide)
  · intro q a hq3 ha
    by_cases hqe : q = kIx p.c
    · subst hqe
      have ha' : some ⟨g', 0, none⟩ = some a := by simpa [ES.push] using ha
      cases ha'
      rcases hgl' with e | e
      · obtain ⟨a0, ha0, hb0⟩ := own_some e
        have := hR.fk _ a0 hq3 ha0
        show E.w0.heap.size ≤ g'
        omega
      · show E.w0.heap.size ≤ g'
        omega
    · have ha' : s.ka q = some a := by simpa [ES.push, hqe] using ha
      exact hR.fk q a hq3 ha'
  · have hnew : ∀ q a, q < 3 → q ≠ kIx p.c → s.ka q = some a → a.block ≠ g' := by
      intro q a hq3 hqe ha e
      rcases hgl' with e' | e'
      · obtain ⟨a0, ha0, hb0⟩ := own_some e'
        exact hR.dk q (kIx p.c) a a0 hq3 hq hqe ha ha0 (by rw [e, hb0])
      · obtain ⟨cur, hc⟩ := row_blk (hR.stk q hq3) (own_of ⟨a, ha, rfl⟩ : (stkV s q).ownBlock = some a.block)
        have := hc.lt
        omega
    intro q q' a a' hq3 hq3' hne ha ha'
    by_cases hqe : q = kIx p.c
    · have hqe' : q' ≠ kIx p.c := fun e => hne (hqe.trans e.symm)
      subst hqe
      have h5 : some ⟨g', 0, none⟩ = some a := by simpa [ES.push] using ha
      cases h5
      have h6 : s.ka q' = some a' := by simpa [ES.push, hqe'] using ha'
      exact fun e => hnew q' a' hq3' hqe' h6 e.symm
    · have h5 : s.ka q = some a := by simpa [ES.push, hqe] using ha
      by_cases hqe' : q' = kIx p.c
      · subst hqe'
        have h6 : some ⟨g', 0, none⟩ = some a' := by simpa [ES.push] using ha'
        cases h6
        exact hnew q a hq3 hqe h5
      · have h6 : s.ka q' = some a' := by simpa [ES.push, hqe'] using ha'
        exact hR.dk q q' a a' hq3 hq3' hne h5 h6
  · intro a ha
    cases ha
    rcases hgl with ⟨a0, h2, h3⟩ | h2
    · have := hR.fd a0 h2
      rw [h3] at this
      exact this
    · right
      show E.w0.heap.size ≤ g
      omega
  · intro a ha
    cases ha
    exact hgl
  · show (s.ys ++ [mkV p.m]).length = (s.dst ++ [Dt.mk p]).length
    simp [hR.len]
  · show (s.dst ++ [Dt.mk p]).length ≤ s.i
    simp
    omega
  · intro j d x h2 h3
    rcases getElem?_snoc h2 with h4 | ⟨rfl, rfl⟩
    · rcases getElem?_snoc h3 with h5 | ⟨rfl, rfl⟩
      · exact Or.inl ⟨h4, h5⟩
      · have := (List.getElem?_eq_some_iff.1 h4).1
        have := hR.len
        omega
    · rcases getElem?_snoc h3 with h5 | ⟨_, rfl⟩
      · have := (List.getElem?_eq_some_iff.1 h5).1
        have := hR.len
        omega
      · right
        exact ⟨rfl, Blk.keep hp hm5 (hXm p _ hp), hok, hk0⟩
  · intro j q h2 _
    exact hXm q j (hR.dstMk j q h2).2.1
  · intro j q h0 h2
    obtain ⟨i, hi⟩ := hR.srcMk j q h0 h2
    exact hXm q i hi
  · show Blk _ E.D #[.slice (some ⟨g, 0, none⟩) (s.ys ++ [mkV p.m]).length dc] _
    rw [e1]
    exact hDw4.set_other (a := ⟨E.S, kIx p.c, none⟩) (Ne.symm hDS) _
  · show Lst _ _ _ _ _ _ _ _ (.slice (some ⟨g, 0, none⟩) (s.ys ++ [mkV p.m]).length dc) _
    rw [e1]
    obtain ⟨cur, hsgb⟩ := hL.sgblk hn0
    have d1 := hL.keep ((Mods.refl (fun k => k = E.D) w2).setCell (p := ⟨E.D, 0, none⟩) (fun _ => rfl) (.slice (some ⟨g, 0, none⟩) (s.ys.length + 1) dc)) (fun e => hsgb.ne_of_type hDw2 (by decide) e) (fun b hb e => by subst e; exact own_ne hL.row hDw2 (by decide) hb)
    have d2 := d1.same h3
    obtain ⟨cur2, hsgb2⟩ := d2.sgblk hn0
    have hst3 : ∀ b, (stkV s (kIx p.c)).ownBlock = some b → ∃ c, Blk w3 b c 266 := by
      intro b hb
      obtain ⟨c0, hc0⟩ := row_blk (hR.stk _ hq) hb
      have f1 := h1.blk hc0
      have f2 := f1.keep hm (fun e => own_ne (h.lst.same h1).row f1 (by decide) e)
      exact ⟨c0, h3.blk (f2.set_other (a := ⟨E.D, 0, none⟩) (fun e => hDw2.ne_of_type f2 (by decide) e) _)⟩
    have d3 := d2.keep hm4 (fun e => by obtain ⟨c0, hc0⟩ := hst3 _ e; exact hsgb2.ne_of_type hc0 (by decide) rfl) (fun b hb e => by obtain ⟨c0, hc0⟩ := hst3 _ e; exact own_ne d2.row hc0 (by decide) hb)
    obtain ⟨cur3, hsgb3⟩ := d3.sgblk hn0
    exact d3.keep ((Mods.refl (fun k => k = E.S) w4).setCell (p := ⟨E.S, kIx p.c, none⟩) (fun _ => rfl) _) (fun e => hsgb3.ne_of_type hSw4 (by decide) e) (fun b hb e => by subst e; exact own_ne d3.row hSw4 (by decide) hb)
end Go.Proofs.YtmmopoofheblbaaGreatDoor.T

/- emph's state: an opener and a closer are found; what stands behind the opener is cut off. -/
namespace Go.Proofs.YtmmopoofheblbaaGreatDoor.T
open Go Go.RowKit Go.Proofs

theorem marksFrom_m (l : List Dt) : ∀ j, (marksFrom j l).map (fun x => x.2.m) = liveD l := by
  have h : ∀ (l : List Dt) (i j : Nat), (marksFrom i l).map (fun x => x.2.m) = (marksFrom j l).map (fun x => x.2.m) := by
    intro l
    induction l with
    | nil => intro i j; rfl
    | cons x l ih => intro i j; cases x <;> simp [marksFrom, ih (i + 1) (j + 1)]
  exact fun j => h l j 0
theorem split_at {α : Type} {l : List α} {j : Nat} {x : α} (h : l[j]? = some x) : l = l.take j ++ x :: l.drop (j + 1) := by
  obtain ⟨hj, rfl⟩ := List.getElem?_eq_some_iff.1 h
  rw [← List.drop_eq_getElem_cons hj, List.take_append_drop]
theorem liveD_append (a b : List Dt) : liveD (a ++ b) = liveD a ++ liveD b := by
  show (marksFrom 0 (a ++ b)).map _ = _
  rw [marksFrom_append, List.map_append, marksFrom_m, marksFrom_m]
theorem liveD_cons (p : Mk) (b : List Dt) : liveD (.mk p :: b) = p.m :: liveD b := by
  show (marksFrom 0 (.mk p :: b)).map _ = _
  simp only [marksFrom, List.map_cons]
  rw [marksFrom_m]

/-- What is left of the list when the opener at j is used. -/
def cutAt (l : List Dt) (j : Nat) (s p : Mk) : List Dt := l.take j ++ (if s.k = take2 p s then [] else [.mk { s with k := s.k - take2 p s }])
theorem closeAt_eq (l : List Dt) (j : Nat) (s p : Mk) : closeAt l j s p = cutAt l j s p ++ [.fin (emNode p.c (take2 p s) ((l.drop (j + 1)).map Dt.inl))] := rfl
theorem cut_len {l : List Dt} {j : Nat} {s p : Mk} (h : l[j]? = some (.mk s)) : (cutAt l j s p).length = if s.k = take2 p s then j else j + 1 := by
  have hj := (List.getElem?_eq_some_iff.1 h).1
  unfold cutAt
  split <;> simp <;> omega
theorem cut_live {l : List Dt} {j : Nat} {s p : Mk} : liveD (cutAt l j s p) = liveD (l.take j) ++ (if s.k = take2 p s then [] else [s.m]) := by
  unfold cutAt
  split
  · simp
  · rw [liveD_mk]
theorem cut_sub {l : List Dt} {j : Nat} {s p : Mk} (h : l[j]? = some (.mk s)) : (liveD (cutAt l j s p)).Sublist (liveD l) := by
  have e : liveD l = liveD (l.take j) ++ s.m :: liveD (l.drop (j + 1)) := by
    conv => lhs; rw [split_at h]
    rw [liveD_append, liveD_cons]
  rw [cut_live, e]
  refine List.Sublist.append (List.Sublist.refl _) ?_
  split
  · exact List.nil_sublist _
  · exact List.Sublist.cons_cons _ (List.nil_sublist _)
theorem cut_get {l : List Dt} {j t : Nat} {s p : Mk} {d : Dt} (h : l[j]? = some (.mk s)) (ht : (cutAt l j s p)[t]? = some d) : (t < j ∧ l[t]? = some d) ∨ (t = j ∧ s.k ≠ take2 p s ∧ d = .mk { s with k := s.k - take2 p s }) := by
  have hj := (List.getElem?_eq_some_iff.1 h).1
  have hlen : (l.take j).length = j := by simp; omega
  unfold cutAt at ht
  rcases Nat.lt_or_ge t j with h1 | h1
  · rw [List.getElem?_append_left (by omega), List.getElem?_take_of_lt h1] at ht
    exact Or.inl ⟨h1, ht⟩
  · rw [List.getElem?_append_right (by omega), hlen] at ht
    split at ht
    · simp at ht
    · rename_i hk
      have h2 : t - j = 0 := by
        have := (List.getElem?_eq_some_iff.1 ht).1
        simpa using this
      rw [h2] at ht
      simp at ht
      exact Or.inr ⟨by omega, hk, ht.symm⟩

theorem stk_split {l : List Dt} {j : Nat} {s : Mk} (q : Nat) (h : l[j]? = some (.mk s)) : stkOf q l = stkOf q (l.take j) ++ ((if kIx s.c = q then [(j, s)] else []) ++ (marksFrom (j + 1) (l.drop (j + 1))).filter (fun x => kIx x.2.c == q)) := by
  have hj := (List.getElem?_eq_some_iff.1 h).1
  have hlen : (l.take j).length = j := by simp; omega
  have e : marksFrom 0 l = marksFrom 0 (l.take j) ++ (j, s) :: marksFrom (j + 1) (l.drop (j + 1)) := by
    conv => lhs; rw [split_at h]
    rw [marksFrom_append, hlen, Nat.zero_add]
    rfl
  unfold stkOf
  rw [e, List.filter_append, List.filter_cons]
  by_cases hq : kIx s.c = q <;> simp [hq]
theorem stk_cut_eq {l : List Dt} {j : Nat} {s p : Mk} (q : Nat) (h : l[j]? = some (.mk s)) : stkOf q (cutAt l j s p) = stkOf q (l.take j) ++ (if s.k = take2 p s then [] else if kIx s.c = q then [(j, { s with k := s.k - take2 p s })] else []) := by
  have hj := (List.getElem?_eq_some_iff.1 h).1
  have hlen : (l.take j).length = j := by simp; omega
  unfold cutAt
  split
  · simp
  · rw [stkOf_mk, hlen]
    split <;> simp
theorem stk_cut_map {l : List Dt} {j : Nat} {s p : Mk} (q : Nat) (h : l[j]? = some (.mk s)) : (stkOf q (cutAt l j s p)).length ≤ (stkOf q l).length ∧ (stkOf q (cutAt l j s p)).map ptrOf = ((stkOf q l).map ptrOf).take (stkOf q (cutAt l j s p)).length := by
  rw [stk_cut_eq q h, stk_split q h]
  by_cases hk : s.k = take2 p s
  · simp [hk]
  · by_cases hq : kIx s.c = q
    · simp only [if_neg hk, if_pos hq, List.length_append, List.map_append, List.length_singleton, List.map_cons, List.map_nil]
      refine ⟨by omega, ?_⟩
      rw [← List.append_assoc, List.take_left' (by simp)]
      rfl
    · simp only [if_neg hk, if_neg hq, List.append_nil, List.nil_append, List.length_append, List.map_append]
      refine ⟨by omega, ?_⟩
      rw [List.take_left' (by simp)]
/-- Which of the places on a stack are left. -/
theorem stk_cut_places {l : List Dt} {j : Nat} {s p : Mk} (q : Nat) (h : l[j]? = some (.mk s)) (t i : Nat) (m : Mk) (ht : (stkOf q l)[t]? = some (i, m)) : t < (stkOf q (cutAt l j s p)).length ↔ i < (cutAt l j s p).length := by
  have hj := (List.getElem?_eq_some_iff.1 h).1
  have hlen : (l.take j).length = j := by simp; omega
  rw [stk_split q h] at ht
  rw [stk_cut_eq q h, cut_len h]
  rcases Nat.lt_or_ge t (stkOf q (l.take j)).length with h1 | h1
  · rw [List.getElem?_append_left h1] at ht
    have h2 := List.mem_of_getElem? ht
    have h3 := marksFrom_lt (List.mem_filter.1 h2).1
    rw [hlen] at h3
    simp only [List.length_append]
    constructor
    · intro _
      split <;> omega
    · intro _; omega
  · rw [List.getElem?_append_right h1] at ht
    by_cases hq : kIx s.c = q
    · rw [if_pos hq] at ht
      rcases Nat.eq_or_lt_of_le h1 with h2 | h2
      · rw [← h2, Nat.sub_self] at ht
        simp at ht
        obtain ⟨rfl, rfl⟩ := ht
        by_cases hk : s.k = take2 p s
        · simp [hk]; omega
        · simp [hk, hq]; omega
      · rw [show t - (stkOf q (l.take j)).length = (t - (stkOf q (l.take j)).length - 1) + 1 by omega] at ht
        simp only [List.singleton_append, List.getElem?_cons_succ] at ht
        have h3 := marksFrom_lt (List.mem_filter.1 (List.mem_of_getElem? ht)).1
        by_cases hk : s.k = take2 p s
        · simp [hk]; omega
        · simp [hk, hq]; omega
    · rw [if_neg hq, List.nil_append] at ht
      have h3 := marksFrom_lt (List.mem_filter.1 (List.mem_of_getElem? ht)).1
      by_cases hk : s.k = take2 p s
      · simp [hk]; omega
      · simp [hk, hq]; omega

def ES.close (s : ES) (j : Nat) (o p : Mk) : ES := { s with ys := s.ys.take (cutAt s.dst j o p).length, dst := cutAt s.dst j o p, hand := [{ p with k := p.k - take2 p o }] }

/-- An opener and a closer have been used; what stood behind the opener is cut off. -/
theorem EmG.close {E : EE} {w w' : World} {s : ES} (h : EmG E w s) (p o : Mk) (j : Nat) (i : Int) (hh : s.hand = [p]) (hj : s.dst[j]? = some (.mk o)) (hn0 : 0 < E.n) (hd : take2 p o ≤ o.k)
    (hm : Mods (fun b => b = o.m ∨ b = p.m ∨ b = E.D ∨ b = E.S) w w') (ho : Blk w' o.m (markCells { o with k := o.k - take2 p o } j) 268) (hp : Blk w' p.m (markCells { p with k := p.k - take2 p o } i) 268)
    (hD : Blk w' E.D #[.slice s.da (cutAt s.dst j o p).length s.dc] 84) (hS : Blk w' E.S (stkCells (s.close j o p)) 281) :
    EmG E w' (s.close j o p) ∧ InlsAt (Av E (s.close j o p)) w' ((s.dst.drop (j + 1)).map Dt.inl) (s.ys.drop (j + 1)) := by
  have hR := h.r
  obtain ⟨hjy, hoA, hoOk, ho0⟩ := hR.dstMk j o hj
  obtain ⟨hpOk, i0, hpA⟩ := hR.hnd p (by rw [hh]; exact List.mem_singleton_self _)
  have hjl := (List.getElem?_eq_some_iff.1 hj).1
  have hnd := hR.nodup
  have hlv := hR.lv
  have hclen := cut_len (p := p) hj
  have hcl : (cutAt s.dst j o p).length ≤ s.dst.length := by rw [hclen]; split <;> omega
  have hcl2 : (cutAt s.dst j o p).length ≤ j + 1 := by rw [hclen]; split <;> omega
  have hylen : (s.ys.take (cutAt s.dst j o p).length).length = (cutAt s.dst j o p).length := by have := hR.len; simp; omega
  have hlE : live E s = liveD s.dst ++ (p.m :: liveS (E.src.drop s.i)) := by unfold live; rw [hh]; rfl
  have hlE' : live E (s.close j o p) = liveD (cutAt s.dst j o p) ++ (p.m :: liveS (E.src.drop s.i)) := rfl
  have hsub : (live E (s.close j o p)).Sublist (live E s) := by
    rw [hlE, hlE']
    exact List.Sublist.append (cut_sub hj) (List.Sublist.refl _)
  have hdl : liveD s.dst = liveD (s.dst.take j) ++ o.m :: liveD (s.dst.drop (j + 1)) := by
    conv => lhs; rw [split_at hj]
    rw [liveD_append, liveD_cons]
  have hin_o : o.m ∈ live E s := by rw [hlE]; exact List.mem_append_left _ (liveD_mem hj)
  have hin_p : p.m ∈ live E s := by rw [hlE]; exact List.mem_append_right _ (List.mem_cons_self)
  have hz0 := hR.mods.size
  have hXt : ∀ b cs T, Blk w b cs T → TreeTy T → (b = o.m ∨ b = p.m ∨ b = E.D ∨ b = E.S) → Av E s b := by
    rintro b cs T hb hT (rfl | rfl | rfl | rfl)
    · exact Or.inr (Or.inl hin_o)
    · exact Or.inr (Or.inl hin_p)
    · have hd := h.D
      unfold Blk at hb hd
      rw [hb] at hd
      cases hd
      exact absurd hT (by decide)
    · have hd := hR.S
      unfold Blk at hb hd
      rw [hb] at hd
      cases hd
      exact absurd hT (by decide)
  have hXs : ∀ (q : Mk) a, MkAt w q a → q.m ≠ o.m → q.m ≠ p.m → ¬ (q.m = o.m ∨ q.m = p.m ∨ q.m = E.D ∨ q.m = E.S) := by
    rintro q a hq h1 h2 (e | e | e | e)
    · exact h1 e
    · exact h2 e
    · exact Blk.ne_of_type hq h.D (by decide) e
    · exact Blk.ne_of_type hq hR.S (by decide) e
  have hrowX : ∀ {e size n : Nat} {u : Value} {l : List Value}, w.ownsRow 0 e size u n l → e ≠ 268 → e ≠ 84 → e ≠ 281 → ∀ g, u.ownBlock = some g → ¬ (g = o.m ∨ g = p.m ∨ g = E.D ∨ g = E.S) := by
    rintro e size n u l hr h1 h2 h3 g hg (rfl | rfl | rfl | rfl)
    · exact own_ne hr hoA (Ne.symm h1) hg
    · exact own_ne hr hpA (Ne.symm h1) hg
    · exact own_ne hr h.D (Ne.symm h2) hg
    · exact own_ne hr hR.S (Ne.symm h3) hg
  rw [hlE] at hnd
  have hnd1 := List.nodup_append.1 hnd
  have hndD := hnd1.1
  rw [hdl] at hndD
  have hndD1 := List.nodup_append.1 hndD
  have hndD2 := List.nodup_cons.1 hndD1.2.1
  have hpD : ∀ m, m ∈ liveD s.dst → m ≠ p.m := fun m hmm => hnd1.2.2 m hmm p.m (List.mem_cons_self)
  have hG : EmG E w' (s.close j o p) := by
    refine ⟨hR.to hm ?_ hXt hS ?_ hR.fk hR.dk hR.fd (fun a ha => Or.inl ⟨a, ha, rfl⟩) hylen ?_ (Nat.le_refl _) ?_ ?_ ?_ ?_ (by rw [← hlE] at hnd; exact hnd.sublist hsub) (fun m hmm => hsub.subset hmm), ?_, ?_⟩
    · rintro b hb (rfl | rfl | rfl | rfl)
      · exact (hlv _ hin_o).1
      · exact (hlv _ hin_p).1
      · have := hR.fD; omega
      · have := hR.fS; omega
    · intro q hq
      obtain ⟨a1, a2⟩ := stk_cut_map (p := p) q hj
      have hr := ownsRow_keep (hR.stk q hq) hm (hrowX (hR.stk q hq) (by decide) (by decide) (by decide))
      show w'.ownsRow 0 266 1 (.slice (s.ka q) (stkOf q (cutAt s.dst j o p)).length (s.kc q)) (stkOf q (cutAt s.dst j o p)).length ((stkOf q (cutAt s.dst j o p)).map ptrOf)
      rw [a2]
      rcases Nat.eq_zero_or_pos (stkOf q s.dst).length with h0 | h0
      · have h1 : (stkOf q (cutAt s.dst j o p)).length = 0 := by omega
        unfold stkV at hr
        rw [h0] at hr
        rw [h1]
        simp only [List.take_zero]
        have h2 : (stkOf q s.dst).map ptrOf = [] := by simp [List.length_eq_zero_iff.1 h0]
        rw [h2] at hr
        exact hr
      · exact row_take hr a1 h0
    · show (cutAt s.dst j o p).length ≤ s.i
      have := hR.le
      omega
    · intro t d x h1 h2
      have hx : s.ys[t]? = some x := by
        have h3 : (s.ys.take (cutAt s.dst j o p).length)[t]? = some x := h2
        rw [List.getElem?_take] at h3
        split at h3
        · exact h3
        · cases h3
      rcases cut_get hj h1 with ⟨h3, h4⟩ | ⟨rfl, hk, rfl⟩
      · exact Or.inl ⟨h4, hx⟩
      · right
        rw [hjy] at hx
        cases hx
        exact ⟨rfl, ho, ⟨hoOk.1, by have := hoOk.2.1; show o.k - _ ≤ _; omega, hoOk.2.2⟩, by show 0 < o.k - take2 p o; omega⟩
    · intro t q h1 h2
      have hq := hR.dstMk t q h1
      rcases cut_get hj h2 with ⟨h3, h4⟩ | ⟨rfl, hk, h5⟩
      · have hmem : q.m ∈ liveD (s.dst.take j) := liveD_mem (j := t) (by rw [List.getElem?_take_of_lt h3]; exact h4)
        exact hXs q t hq.2.1 (hndD1.2.2 _ hmem _ (List.mem_cons_self)) (hpD _ (liveD_mem h1))
      · rw [hj] at h1
        cases h1
        have h7 := congrArg (fun d => match d with | .mk q => q.k | .fin _ => 0) h5
        simp at h7
        have : 0 < take2 p o := by unfold take2; split <;> omega
        omega
    · intro t q h0 h1
      obtain ⟨a, ha⟩ := hR.srcMk t q h0 h1
      have hmem : q.m ∈ liveS (E.src.drop s.i) := liveS_mem (j := t - s.i) (by rw [List.getElem?_drop, show s.i + (t - s.i) = t by have : s.i ≤ t := h0; omega]; exact h1)
      refine hXs q a ha (fun e => ?_) (fun e => ?_)
      · exact hnd1.2.2 _ (liveD_mem hj) _ (List.mem_cons_of_mem _ hmem) e.symm
      · exact (List.nodup_cons.1 hnd1.2.1).1 (e ▸ hmem)
    · intro q hq
      have : q = { p with k := p.k - take2 p o } := List.mem_singleton.1 hq
      subst this
      exact ⟨⟨hpOk.1, by have := hpOk.2.1; show p.k - _ ≤ _; omega, hpOk.2.2⟩, i, hp⟩
    · show Blk w' E.D #[.slice s.da (s.ys.take (cutAt s.dst j o p).length).length s.dc] _
      rw [hylen]
      exact hD
    · show Lst _ _ _ _ _ _ _ _ (.slice s.da (s.ys.take (cutAt s.dst j o p).length).length s.dc) _
      rw [hylen]
      have hk := h.lst.keep hm (fun e => by
        obtain ⟨cur, hc⟩ := h.lst.sgblk hn0
        rcases e with e | e | e | e
        · exact hc.ne_of_type hoA (by decide) e
        · exact hc.ne_of_type hpA (by decide) e
        · exact hc.ne_of_type h.D (by decide) e
        · exact hc.ne_of_type hR.S (by decide) e) (hrowX h.lst.row (by decide) (by decide) (by decide))
      exact hk.cut rfl _ (by rw [hR.len]; exact hcl) (by rw [hR.len]; omega)
  refine ⟨hG, InlsAt.of (by simp [hR.len]) (fun t k x h1 h2 => ?_)⟩
  rw [List.getElem?_map, Option.map_eq_some_iff] at h1
  obtain ⟨d, h3, rfl⟩ := h1
  rw [List.getElem?_drop] at h2 h3
  have hdt := hR.dts (j + 1 + t) d x h3 h2
  have hA : ∀ b, Av E (s.close j o p) b → Av E s b ∨ w.heap.size ≤ b := by
    rintro b (h4 | h4 | h4)
    · exact Or.inl (Or.inl h4)
    · exact Or.inl (Or.inr (Or.inl (hsub.subset h4)))
    · exact Or.inl (Or.inr (Or.inr h4))
  cases d with
  | fin u => exact InlAt.keep hm hXt hA u x hdt
  | mk q =>
    obtain ⟨rfl, hq, hqk, _⟩ := hdt
    have hmem : q.m ∈ liveD (s.dst.drop (j + 1)) := liveD_mem (j := t) (by rw [List.getElem?_drop]; exact h3)
    have hne_o : q.m ≠ o.m := fun e => hndD2.1 (e ▸ hmem)
    have hne_p : q.m ≠ p.m := hpD _ (liveD_mem h3)
    have hq' := Blk.keep hq hm (hXs q _ hq hne_o hne_p)
    show InlAt _ w' (markI (run q.c q.k)) _
    simp only [markI, InlAt]
    refine ⟨q.m, _, _, rfl, hq', ?_, tt_mark⟩
    rintro (h4 | h4 | ⟨a, ha, hb⟩)
    · exact (hlv q.m (by rw [hlE]; exact List.mem_append_left _ (liveD_mem h3))).2 h4
    · rw [hlE', cut_live] at h4
      rcases List.mem_append.1 h4 with h5 | h5
      · rcases List.mem_append.1 h5 with h6 | h6
        · exact hndD1.2.2 _ h6 _ (List.mem_cons_of_mem _ hmem) rfl
        · split at h6
          · cases h6
          · exact hne_o (List.mem_singleton.1 h6)
      · exact hnd1.2.2 _ (liveD_mem h3) _ h5 rfl
    · obtain ⟨cur, hc⟩ := row_blk h.lst.row (own_of ⟨a, ha, hb⟩)
      exact hc.ne_of_type hq (by decide) rfl
end Go.Proofs.YtmmopoofheblbaaGreatDoor.T

/- emph's trimStack where one tilde is on its stack. -/
namespace Go.Proofs.YtmmopoofheblbaaGreatDoor
open Go Go.RowKit Go.Proofs

def sNil : Value := .slice none 0 0
/-- The stacks of marks, a value for that of tildes. -/
def stk2 (v : Value) : Array Value := #[sNil, sNil, v, sNil, sNil]

theorem trim_facts {w wr : World} {S D m sg sc d i0 : Nat} {gl : Option Addr} {cap : Nat} {cs : Array Value} (hm : Same w wr) (hS : Blk w S (stk2 (.slice (some ⟨sg, 0, none⟩) 1 sc)) 281) (hD : Blk w D #[.slice gl d cap] 84)
    (hrow : w.ownsRow 0 266 1 (.slice (some ⟨sg, 0, none⟩) 1 sc) 1 [.pointer (some ⟨m, 0, none⟩)]) (hM : Blk w m cs 268) (hi : cs[3]? = some (.int .i64 i0)) :
    (wr.cell? ⟨S, 0, none⟩ = some (.slice none 0 0) ∧ wr.cell? ⟨S, 1, none⟩ = some (.slice none 0 0) ∧ wr.cell? ⟨S, 2, none⟩ = some (.slice (some ⟨sg, 0, none⟩) 1 sc) ∧ wr.cell? ⟨S, 3, none⟩ = some (.slice none 0 0) ∧ wr.cell? ⟨S, 4, none⟩ = some (.slice none 0 0)) ∧
      wr.frozen? ⟨S, 2, none⟩ = false ∧ S < wr.heap.size ∧ wr.cell? ⟨D, 0, none⟩ = some (.slice gl d cap) ∧ wr.cell? ⟨sg, 0, none⟩ = some (.pointer (some ⟨m, 0, none⟩)) ∧ wr.cell? ⟨m, 3, none⟩ = some (.int .i64 i0) := by
  have hSr := hm.blk hS
  have hDr := hm.blk hD
  have hMr := hm.blk hM
  obtain ⟨_, _, he, _, _, hc⟩ := ownsRow_form (ownsRow_keep hrow hm (fun _ _ x => x)) (by omega)
  cases he
  exact ⟨⟨hSr.cell 0, hSr.cell 1, hSr.cell 2, hSr.cell 3, hSr.cell 4⟩, hSr.fr 2, hSr.lt, hDr.cell 0, hc 0 _ rfl, (hMr.cell 3).trans hi⟩

def Trimmed (w w' : World) (S sg sc : Nat) : Prop := Mods (fun k => k = S) w w' ∧ Blk w' S (stk2 (.slice (some ⟨sg, 0, none⟩) 0 sc)) 281
theorem Trimmed.same {w w' w2 : World} {S sg sc : Nat} (h : Trimmed w w' S sg sc) (hm : Same w' w2) : Trimmed w w2 S sg sc := ⟨h.1.then hm (fun _ _ x => absurd x (fun x => x)), hm.blk h.2⟩
theorem Trimmed.facts {w w' : World} {S sg sc : Nat} (h : Trimmed w w' S sg sc) : w'.cell? ⟨S, 2, none⟩ = some (.slice (some ⟨sg, 0, none⟩) 0 sc) ∧ w'.cell? ⟨S, 3, none⟩ = some (.slice none 0 0) ∧ w'.cell? ⟨S, 4, none⟩ = some (.slice none 0 0) ∧ S < w'.heap.size := ⟨h.2.cell 2, h.2.cell 3, h.2.cell 4, h.2.lt⟩

theorem trimmed_at {w wr : World} {S sg sc k : Nat} (hS : Blk w S (stk2 (.slice (some ⟨sg, 0, none⟩) 1 sc)) 281) (hm : Same w wr) : Trimmed w ((wr.drewN k).setCell ⟨S, 2, none⟩ (.slice (some ⟨sg, 0, none⟩) 0 sc)) S sg sc := by
  have hm2 : Same w (wr.drewN k) := hm.drewN k
  have h := (hm2.blk hS).set_same 2 (.slice (some ⟨sg, 0, none⟩) 0 sc)
  exact ⟨(hm2.mono (S' := fun k => k = S) (fun _ _ x => absurd x (fun x => x))).trans ((Mods.refl (fun k => k = S) _).setCell (p := ⟨S, 2, none⟩) (fun _ => rfl) _), h⟩

set_option maxRecDepth 100000 in
set_option maxHeartbeats 8000000 in
theorem trim_tilde (S D m sg sc d i0 : Nat) (gl : Option Addr) (cap : Nat) (cs : Array Value) (w : World) (hS : Blk w S (stk2 (.slice (some ⟨sg, 0, none⟩) 1 sc)) 281) (hD : Blk w D #[.slice gl d cap] 84)
    (hrow : w.ownsRow 0 266 1 (.slice (some ⟨sg, 0, none⟩) 1 sc) 1 [.pointer (some ⟨m, 0, none⟩)]) (hM : Blk w m cs 268) (hi : cs[3]? = some (.int .i64 i0)) (hd : d ≤ i0) (hsc : 1 ≤ sc) :
    Calls Tryz.prog 160 #[.pointer (some ⟨S, 0, none⟩), .pointer (some ⟨D, 0, none⟩)] w fun e w' => e = .returned (.tuple #[]) ∧ Trimmed w w' S sg sc := by
  have HF := fun (wr : World) (hm : Same w wr) => trim_facts hm hS hD hrow hM hi
  have HH := Lib.hid HF
  have HS := Lib.hid hS
  have x1 : (d : Int) ≤ i0 := by omega
  have x2 : (0 : Int) ≤ sc := by omega
  clear HF hS hD hrow hM hi
  go_enter Tryz.func160, Tryz.ntmps160
  go_wp2_with fail
  go_loopg [2, 3, 4] 5 (fun a v2 v3 v4 wr => ∃ i : Nat, v4 = .int .i64 i ∧ a = 5 - i ∧ i ≤ 5 ∧ ((i ≤ 2 ∧ Same w wr) ∨ (3 ≤ i ∧ Trimmed w wr S sg sc)))
  case atStart => exact ⟨0, rfl, rfl, by omega, Or.inl ⟨by omega, Mods.refl _ _⟩⟩
  case round =>
    obtain ⟨i, rfl, rfl, hi5, hor⟩ := hrel
    have hcase : i = 0 ∨ i = 1 ∨ i = 2 ∨ i = 3 ∨ i = 4 ∨ i = 5 := by omega
    rcases hcase with rfl | rfl | rfl | rfl | rfl | rfl
    · obtain ⟨_, hm⟩ | ⟨h3, _⟩ := hor
      · have HM := Lib.hid hm
        clear hm
        go_wp2_with fail
        go_loopg [] 0 (fun _ wx => Same w wx)
        case atStart => exact HM.out
        case round =>
          obtain ⟨⟨y0, y1, y2, y3, y4⟩, yf, yl, yD, yg, ym⟩ := HH.out _ hrel
          have HR := Lib.hid hrel
          clear hrel
          go_wp2_with fail
          go_quiet (fail)
          go_wp2_with fail
          go_roundg 4
          case measure => omega
          case rel => exact ⟨1, rfl, rfl, by omega, Or.inl ⟨by omega, HR.out.drewN _⟩⟩
      · exact absurd h3 (by omega)
    · obtain ⟨_, hm⟩ | ⟨h3, _⟩ := hor
      · have HM := Lib.hid hm
        clear hm
        go_wp2_with fail
        go_loopg [] 0 (fun _ wx => Same w wx)
        case atStart => exact HM.out
        case round =>
          obtain ⟨⟨y0, y1, y2, y3, y4⟩, yf, yl, yD, yg, ym⟩ := HH.out _ hrel
          have HR := Lib.hid hrel
          clear hrel
          go_wp2_with fail
          go_quiet (fail)
          go_wp2_with fail
          go_roundg 3
          case measure => omega
          case rel => exact ⟨2, rfl, rfl, by omega, Or.inl ⟨by omega, HR.out.drewN _⟩⟩
      · exact absurd h3 (by omega)
    · obtain ⟨_, hm⟩ | ⟨h3, _⟩ := hor
      · have HM := Lib.hid hm
        clear hm
        go_wp2_with fail
        go_loopg [] 1 (fun a wx => (a = 1 ∧ Same w wx) ∨ (a = 0 ∧ Trimmed w wx S sg sc))
        case atStart => exact Or.inl ⟨rfl, HM.out⟩
        case round =>
          rcases hrel with ⟨rfl, hm⟩ | ⟨rfl, hT⟩
          · obtain ⟨⟨y0, y1, y2, y3, y4⟩, yf, yl, yD, yg, ym⟩ := HH.out _ hm
            have HR := Lib.hid hm
            clear hm
            go_wp2_with fail
            go_quiet (fail)
            go_wp2_with fail
            have hm2 := HR.out.drewN nq
            generalize hX : (World.drewN _ _ : World) = X at hm2 ⊢
            clear hX y0 y1 y2 y3 y4 yf yl yD yg ym
            obtain ⟨⟨y0, y1, y2, y3, y4⟩, yf, yl, yD, yg, ym⟩ := HH.out _ hm2
            have HR2 := Lib.hid hm2
            clear hm2
            go_region
            all_goals
              go_wp2_with fail
              go_roundg 0
              case measure => omega
              case rel => exact Or.inr ⟨rfl, trimmed_at HS.out HR2.out⟩
          · obtain ⟨y2, y3, y4, yl⟩ := hT.facts
            have HR := Lib.hid hT
            clear hT
            go_wp2_with fail
            go_quiet (fail)
            go_wp2_with fail
            go_roundg 2
            case measure => omega
            case rel => exact ⟨3, rfl, rfl, by omega, Or.inr ⟨by omega, HR.out.same ((Mods.refl _ _).drewN _)⟩⟩
      · exact absurd h3 (by omega)
    · obtain ⟨h3, _⟩ | ⟨_, hT⟩ := hor
      · exact absurd h3 (by omega)
      · have HT := Lib.hid hT
        clear hT
        go_wp2_with fail
        go_loopg [] 0 (fun _ wx => Trimmed w wx S sg sc)
        case atStart => exact HT.out
        case round =>
          obtain ⟨y2, y3, y4, yl⟩ := hrel.facts
          have HR := Lib.hid hrel
          clear hrel
          go_wp2_with fail
          go_quiet (fail)
          go_wp2_with fail
          go_roundg 1
          case measure => omega
          case rel => exact ⟨4, rfl, rfl, by omega, Or.inr ⟨by omega, HR.out.same ((Mods.refl _ _).drewN _)⟩⟩
    · obtain ⟨h3, _⟩ | ⟨_, hT⟩ := hor
      · exact absurd h3 (by omega)
      · have HT := Lib.hid hT
        clear hT
        go_wp2_with fail
        go_loopg [] 0 (fun _ wx => Trimmed w wx S sg sc)
        case atStart => exact HT.out
        case round =>
          obtain ⟨y2, y3, y4, yl⟩ := hrel.facts
          have HR := Lib.hid hrel
          clear hrel
          go_wp2_with fail
          go_quiet (fail)
          go_wp2_with fail
          go_roundg 0
          case measure => omega
          case rel => exact ⟨5, rfl, rfl, by omega, Or.inr ⟨by omega, HR.out.same ((Mods.refl _ _).drewN _)⟩⟩
    · obtain ⟨h3, _⟩ | ⟨_, hT⟩ := hor
      · exact absurd h3 (by omega)
      · have HT := Lib.hid hT
        clear hT
        go_wp2_with fail
        go_end0
        exact ⟨rfl, HT.out⟩
end Go.Proofs.YtmmopoofheblbaaGreatDoor
