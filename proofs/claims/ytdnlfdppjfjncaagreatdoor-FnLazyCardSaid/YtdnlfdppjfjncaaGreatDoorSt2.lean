/- Some texts of one proof, put into one file: Append, Stack, Para, Build, Build2, Close, Close2, Close3. -/
import Derived.Deep.AppendLies
import Derived.Deep.RegionWith
import Derived.Test.YtdnlfdppjfjncaaGreatDoorSt1
/- append of one element, type by type. -/
namespace Go.Proofs.YtdnlfdppjfjncaaGreatDoor
open Go Go.RowKit Go.Proofs

theorem ap1 {P : Program} {w : World} {ops : Array Oper} {rest : List Oper} {o : Oper} {a : Act} {Q : Exit → Act → World → Prop} (hgd : o.guard = none) (s x : Operand) (t e size bytes : Nat)
    (ho : o.op = .call { callee := .builtin .append, args := #[s, x], argTypes := #[t, t] }) (z : Value)
    (ht : P.underlying t = some (.slice e)) (hi : (P.info? e).map (fun i => (i.zero, i.size, i.bytes)) = some (some z, size, bytes)) (hzs : z.cells.size = size) (hsz : 0 < size) (hby : bytes ≤ 100)
    (v : Value) (n : Nat) (xs : List Value) (hs : a.eval s = v) (hown : w.ownsRow 0 e size v n xs)
    (b c : Nat) (news : List Value) (hx : a.eval x = .slice (some ⟨b, 0, none⟩) 1 c) (hl : news.length = size) (hnews : ∀ j u, news[j]? = some u → w.cell? ⟨b, j, none⟩ = some u)
    (h1 : ∀ u ∈ news, u.oneCell' = true) (hn : n ≤ 1000000)
    (h : ∀ g cap w', w'.ownsRow 0 e size (.slice (some ⟨g, 0, none⟩) (n + 1) cap) (n + 1) (xs ++ news) → w.grownBy w' v.ownBlock → (v.ownBlock = some g ∨ g = w.heap.size) → wpList P ops Q rest (a.put o.dst (.slice (some ⟨g, 0, none⟩) (n + 1) cap)) w') : wpList P ops Q (o :: rest) a w := by
  obtain ⟨i0, hi0, hz⟩ := Option.map_eq_some_iff.1 hi
  simp only [Prod.mk.injEq] at hz
  obtain ⟨hz0, hz1, hz2⟩ := hz
  refine wpList_append_lies w hgd s x t ho 0 e i0 z size bytes ht hi0 hz0 hz1 hz2 hzs hsz v n xs hs hown ⟨b, 0, none⟩ 1 c news hx (by omega) ?_ h1 (by omega) (by unfold maxLen; omega) ?_ (Nat.zero_le _) _ rfl (fun g cap w' h2 h3 h4 _ => h g cap w' h2 h3 h4)
  · intro j u hu
    have := hnews j u hu
    simpa [Addr.add_lit] using this
  · have : (n + 1) * bytes ≤ 1000001 * 100 := Nat.mul_le_mul (by omega) hby
    omega

/-- What may have been written by an append onto v. -/
theorem grown_mods {w w' : World} {v : Value} (h : w.grownBy w' v.ownBlock) : Mods (fun k => v.ownBlock = some k) w w' :=
  ⟨h.os, h.tape, h.output, h.size, fun k hk hn => h.block k hk (fun e => hn e.symm)⟩

section
variable {w : World} {ops : Array Oper} {rest : List Oper} {o : Oper} {a : Act} {Q : Exit → Act → World → Prop}

theorem ap_ob (hgd : o.guard = none) (s x : Operand) (ho : o.op = .call { callee := .builtin .append, args := #[s, x], argTypes := #[87, 87] })
    (v : Value) (n : Nat) (xs : List Value) (hs : a.eval s = v) (hown : w.ownsRow 0 121 4 v n xs)
    (b c : Nat) (news : List Value) (hx : a.eval x = .slice (some ⟨b, 0, none⟩) 1 c) (hl : news.length = 4) (hnews : ∀ j u, news[j]? = some u → w.cell? ⟨b, j, none⟩ = some u)
    (h1 : ∀ u ∈ news, u.oneCell' = true) (hn : n ≤ 1000000)
    (h : ∀ g cap w', w'.ownsRow 0 121 4 (.slice (some ⟨g, 0, none⟩) (n + 1) cap) (n + 1) (xs ++ news) → w.grownBy w' v.ownBlock → (v.ownBlock = some g ∨ g = w.heap.size) → wpList Tryz.prog ops Q rest (a.put o.dst (.slice (some ⟨g, 0, none⟩) (n + 1) cap)) w') : wpList Tryz.prog ops Q (o :: rest) a w :=
  ap1 hgd s x 87 121 4 56 ho (.agg #[.nilIface, .slice none 0 0, .int .i64 0, .int .i64 0]) Tryz.underlying87 (by kernel_rfl) rfl (by decide) (by decide) v n xs hs hown b c news hx hl hnews h1 hn h

theorem ap_str (hgd : o.guard = none) (s x : Operand) (ho : o.op = .call { callee := .builtin .append, args := #[s, x], argTypes := #[36, 36] })
    (v : Value) (n : Nat) (xs : List Value) (hs : a.eval s = v) (hown : w.ownsRow 0 9 1 v n xs)
    (b c : Nat) (u : ByteArray) (hx : a.eval x = .slice (some ⟨b, 0, none⟩) 1 c) (hu : w.cell? ⟨b, 0, none⟩ = some (.string u)) (hn : n ≤ 1000000)
    (h : ∀ g cap w', w'.ownsRow 0 9 1 (.slice (some ⟨g, 0, none⟩) (n + 1) cap) (n + 1) (xs ++ [.string u]) → w.grownBy w' v.ownBlock → (v.ownBlock = some g ∨ g = w.heap.size) → wpList Tryz.prog ops Q rest (a.put o.dst (.slice (some ⟨g, 0, none⟩) (n + 1) cap)) w') : wpList Tryz.prog ops Q (o :: rest) a w :=
  ap1 hgd s x 36 9 1 16 ho (.string ⟨#[]⟩) Tryz.underlying36 (by kernel_rfl) rfl (by decide) (by decide) v n xs hs hown b c [.string u] hx rfl
    (fun j y hy => by cases j with
      | zero => simp at hy; subst hy; exact hu
      | succ j => simp at hy) (fun y hy => by simp at hy; subst hy; rfl) hn h

theorem ap_blk (hgd : o.guard = none) (s x : Operand) (ho : o.op = .call { callee := .builtin .append, args := #[s, x], argTypes := #[119, 119] })
    (v : Value) (n : Nat) (xs : List Value) (hs : a.eval s = v) (hown : w.ownsRow 0 68 1 v n xs)
    (b c T : Nat) (u : Value) (hx : a.eval x = .slice (some ⟨b, 0, none⟩) 1 c) (hu : w.cell? ⟨b, 0, none⟩ = some (.iface T u)) (hn : n ≤ 1000000)
    (h : ∀ g cap w', w'.ownsRow 0 68 1 (.slice (some ⟨g, 0, none⟩) (n + 1) cap) (n + 1) (xs ++ [.iface T u]) → w.grownBy w' v.ownBlock → (v.ownBlock = some g ∨ g = w.heap.size) → wpList Tryz.prog ops Q rest (a.put o.dst (.slice (some ⟨g, 0, none⟩) (n + 1) cap)) w') : wpList Tryz.prog ops Q (o :: rest) a w :=
  ap1 hgd s x 119 68 1 16 ho .nilIface Tryz.underlying119 (by kernel_rfl) rfl (by decide) (by decide) v n xs hs hown b c [.iface T u] hx rfl
    (fun j y hy => by cases j with
      | zero => simp at hy; subst hy; exact hu
      | succ j => simp at hy) (fun y hy => by simp at hy; subst hy; rfl) hn h

theorem ap_inl (hgd : o.guard = none) (s x : Operand) (ho : o.op = .call { callee := .builtin .append, args := #[s, x], argTypes := #[88, 88] })
    (v : Value) (n : Nat) (xs : List Value) (hs : a.eval s = v) (hown : w.ownsRow 0 132 1 v n xs)
    (b c T : Nat) (u : Value) (hx : a.eval x = .slice (some ⟨b, 0, none⟩) 1 c) (hu : w.cell? ⟨b, 0, none⟩ = some (.iface T u)) (hn : n ≤ 1000000)
    (h : ∀ g cap w', w'.ownsRow 0 132 1 (.slice (some ⟨g, 0, none⟩) (n + 1) cap) (n + 1) (xs ++ [.iface T u]) → w.grownBy w' v.ownBlock → (v.ownBlock = some g ∨ g = w.heap.size) → wpList Tryz.prog ops Q rest (a.put o.dst (.slice (some ⟨g, 0, none⟩) (n + 1) cap)) w') : wpList Tryz.prog ops Q (o :: rest) a w :=
  ap1 hgd s x 88 132 1 16 ho .nilIface Tryz.underlying88 (by kernel_rfl) rfl (by decide) (by decide) v n xs hs hown b c [.iface T u] hx rfl
    (fun j y hy => by cases j with
      | zero => simp at hy; subst hy; exact hu
      | succ j => simp at hy) (fun y hy => by simp at hy; subst hy; rfl) hn h

theorem ap_txt (hgd : o.guard = none) (s x : Operand) (ho : o.op = .call { callee := .builtin .append, args := #[s, x], argTypes := #[90, 90] })
    (v : Value) (n : Nat) (xs : List Value) (hs : a.eval s = v) (hown : w.ownsRow 0 105 1 v n xs)
    (b c : Nat) (u : Option Addr) (hx : a.eval x = .slice (some ⟨b, 0, none⟩) 1 c) (hu : w.cell? ⟨b, 0, none⟩ = some (.pointer u)) (hn : n ≤ 1000000)
    (h : ∀ g cap w', w'.ownsRow 0 105 1 (.slice (some ⟨g, 0, none⟩) (n + 1) cap) (n + 1) (xs ++ [.pointer u]) → w.grownBy w' v.ownBlock → (v.ownBlock = some g ∨ g = w.heap.size) → wpList Tryz.prog ops Q rest (a.put o.dst (.slice (some ⟨g, 0, none⟩) (n + 1) cap)) w') : wpList Tryz.prog ops Q (o :: rest) a w :=
  ap1 hgd s x 90 105 1 8 ho (.pointer none) Tryz.underlying90 (by kernel_rfl) rfl (by decide) (by decide) v n xs hs hown b c [.pointer u] hx rfl
    (fun j y hy => by cases j with
      | zero => simp at hy; subst hy; exact hu
      | succ j => simp at hy) (fun y hy => by simp at hy; subst hy; rfl) hn h
end
end Go.Proofs.YtdnlfdppjfjncaaGreatDoor

/- The stack of open blocks: addBlock, trimStack. -/
namespace Go.Proofs.YtdnlfdppjfjncaaGreatDoor
open Go Go.RowKit Go.Proofs

theorem ownsRow_form {w : World} {e size n : Nat} {v : Value} {xs : List Value} (h : w.ownsRow 0 e size v n xs) (hn : 0 < n) :
    ∃ g cap, v = .slice (some ⟨g, 0, none⟩) n cap ∧ (∃ cur, Blk w g cur e) ∧ (∀ i, w.frozen? ⟨g, i, none⟩ = false) ∧ (∀ (j : Nat) (u : Value), xs[j]? = some u → w.cell? ⟨g, j, none⟩ = some u) := by
  obtain ⟨h1, h2⟩ := h
  rcases h2 with ⟨_, h2⟩ | ⟨g, cap, cur, rfl, _, hg, hc, hm, hs, ht⟩
  · omega
  · refine ⟨g, cap, rfl, ⟨cur, hg⟩, fun i => Blk.fr (T := e) hg i, fun j u hj => ?_⟩
    rw [Blk.cell (T := e) hg, ← hj, ← ht]
    have hj' : j < xs.length := (List.getElem?_eq_some_iff.1 hj).1
    rw [List.getElem?_take_of_lt (by omega)]
    simp

theorem ownsRow_set {w : World} {e size n g cap : Nat} {xs : List Value} (h : w.ownsRow 0 e size (.slice (some ⟨g, 0, none⟩) n cap) n xs) (j : Nat) (u : Value) (_hj : j < n * size) :
    (w.setCell ⟨g, j, none⟩ u).ownsRow 0 e size (.slice (some ⟨g, 0, none⟩) n cap) n (xs.set j u) := by
  obtain ⟨h1, h2⟩ := h
  rcases h2 with ⟨h2, _⟩ | ⟨g', cap', cur, hv, _, hg, hc, hm, hs, ht⟩
  · cases h2
  · cases hv
    refine ⟨by simpa using h1, .inr ⟨g, cap, cur.setIfInBounds j u, rfl, Nat.zero_le _, Blk.set_same (T := e) hg j u, hc, hm, by simpa using hs, ?_⟩⟩
    rw [← ht]
    simp [List.take_set]

theorem ownsRow_keep {w w' : World} {e size n : Nat} {v : Value} {xs : List Value} {S : Nat → Prop} (h : w.ownsRow 0 e size v n xs) (hm : Mods S w w') (hS : ∀ g, v.ownBlock = some g → ¬ S g) :
    w'.ownsRow 0 e size v n xs := by
  obtain ⟨h1, h2⟩ := h
  refine ⟨h1, ?_⟩
  rcases h2 with h2 | ⟨g, cap, cur, rfl, hb, hg, rest⟩
  · exact .inl h2
  · exact .inr ⟨g, cap, cur, rfl, hb, Blk.keep (T := e) hg hm (hS g rfl), rest⟩

set_option maxHeartbeats 1000000 in
theorem trimStack_none (bp n cap : Nat) (a : Option Addr) (p : PSt) (w : World) (hp : PsAt w bp p) (hst : p.stack = .slice a n cap) (_hn : n ≤ 1000000) :
    Calls Tryz.prog 65 #[.pointer (some ⟨bp, 0, none⟩), .int .i64 n] w fun e w' => e = .returned (.tuple #[]) ∧ w = w' := by
  have k4 := hp.stack
  rw [hst] at k4
  clear hst
  go_enter Tryz.func65, Tryz.ntmps65
  go_wp2
  go_loopg [] 0 (fun g wr => w = wr)
  case atStart => rfl
  case round =>
    subst hrel
    go_wp2
    go_end0
    exact ⟨rfl, rfl⟩

theorem mods_add {S : Nat → Prop} {w w1 : World} (hk : Mods S w w1) {bp g : Nat} (j nq : Nat) (hb : S bp) (hg : g < w.heap.size → S g) (v1 v2 v3 v4 : Value) :
    Mods S w (((((w1.setCell ⟨bp, 4, none⟩ v1).drewN nq).setCell ⟨g, j, none⟩ v2).setCell ⟨g, j + 2, none⟩ v3).setCell ⟨g, j + 2 + 1, none⟩ v4) := by
  have h1 := Mods.drewN (hk.setCell (p := ⟨bp, 4, none⟩) (fun _ => hb) v1) nq
  have h2 := h1.setCell (p := ⟨g, j, none⟩) hg v2
  have h3 := h2.setCell (p := ⟨g, j + 2, none⟩) hg v3
  exact h3.setCell (p := ⟨g, j + 2 + 1, none⟩) hg v4

theorem ps_add {w1 : World} {bp g : Nat} {p : PSt} (hp1 : PsAt w1 bp p) (hne : g ≠ bp) (j nq : Nat) (v1 v2 v3 v4 : Value) :
    PsAt (((((w1.setCell ⟨bp, 4, none⟩ v1).drewN nq).setCell ⟨g, j, none⟩ v2).setCell ⟨g, j + 2, none⟩ v3).setCell ⟨g, j + 2 + 1, none⟩ v4) bp { p with stack := v1 } := by
  have h1 : PsAt ((w1.setCell ⟨bp, 4, none⟩ v1).drewN nq) bp { p with stack := v1 } := PsAt.drewN (hp1.set 4 v1 { p with stack := v1 } rfl (by decide)) nq
  have h2 := h1.set_other (a := ⟨g, j, none⟩) hne v2
  have h3 := h2.set_other (a := ⟨g, j + 2, none⟩) hne v3
  exact h3.set_other (a := ⟨g, j + 2 + 1, none⟩) hne v4

theorem row_add {w1 : World} {bp g n cap : Nat} {l : List Value} (hlen : l.length = n * 4) (hne : g ≠ bp) (nq : Nat) (v1 c x y : Value)
    (hown : w1.ownsRow 0 121 4 (.slice (some ⟨g, 0, none⟩) (n + 1) cap) (n + 1) (l ++ [.nilIface, .slice none 0 0, .int .i64 0, .int .i64 0])) :
    (((((w1.setCell ⟨bp, 4, none⟩ v1).drewN nq).setCell ⟨g, n * 4, none⟩ c).setCell ⟨g, n * 4 + 2, none⟩ x).setCell ⟨g, n * 4 + 2 + 1, none⟩ y).ownsRow 0 121 4 (.slice (some ⟨g, 0, none⟩) (n + 1) cap) (n + 1)
      (l ++ [c, .slice none 0 0, x, y]) := by
  have ho : ((w1.setCell ⟨bp, 4, none⟩ v1).drewN nq).ownsRow 0 121 4 (.slice (some ⟨g, 0, none⟩) (n + 1) cap) (n + 1) (l ++ [.nilIface, .slice none 0 0, .int .i64 0, .int .i64 0]) :=
    ownsRow_keep hown (((Mods.refl (fun k => k = bp) w1).setCell (p := ⟨bp, 4, none⟩) (fun _ => rfl) v1).drewN nq) (by intro g' hg'; cases hg'; exact hne)
  have h3 := ownsRow_set (ownsRow_set (ownsRow_set ho (n * 4) c (by omega)) (n * 4 + 2) x (by omega)) (n * 4 + 2 + 1) y (by omega)
  have e : (((l ++ [Value.nilIface, .slice none 0 0, .int .i64 0, .int .i64 0]).set (n * 4) c).set (n * 4 + 2) x).set (n * 4 + 2 + 1) y = l ++ [c, .slice none 0 0, x, y] := by
    rw [← hlen]
    simp [List.set_append]
    rw [if_neg (by omega), show l.length + 2 + 1 - l.length = 3 by omega]
    rfl
  rw [e] at h3
  exact h3

/-- What addBlock leaves. -/
structure Added (w w' : World) (bp : Nat) (p : PSt) (n : Nat) (l : List Value) (c : Value) : Prop where
  mods : Mods (fun k => k = bp ∨ p.stack.ownBlock = some k) w w'
  ex : ∃ g cap, PsAt w' bp { p with stack := .slice (some ⟨g, 0, none⟩) (n + 1) cap } ∧
    w'.ownsRow 0 121 4 (.slice (some ⟨g, 0, none⟩) (n + 1) cap) (n + 1) (l ++ [c, .slice none 0 0, .int .i64 p.lineno, .int .i64 p.lineno]) ∧ (g < w.heap.size → p.stack.ownBlock = some g)

set_option maxHeartbeats 4000000 in
theorem addBlock_any (bp n cap : Nat) (a : Option Addr) (p : PSt) (T : Nat) (c : Value) (l : List Value) (d : Int) (w : World) (hp : PsAt w bp p) (hst : p.stack = .slice a n cap) (hn : n ≤ 1000) (hd : p.depth = d) (hdn : d + 1 = n)
    (hown : w.ownsRow 0 121 4 (.slice a n cap) n l) (hne : ∀ g, (Value.slice a n cap).ownBlock = some g → g ≠ bp) (_hc : c.oneCell' = true) :
    Calls Tryz.prog 62 #[.pointer (some ⟨bp, 0, none⟩), .iface T c] w fun e w' => e = .returned (.tuple #[]) ∧ Added w w' bp p n l (.iface T c) := by
  have k5 := hp.depth
  rw [hd] at k5
  have hdl : -1 ≤ d := by omega
  have hdu : d ≤ 1000 := by omega
  go_enter Tryz.func62, Tryz.ntmps62
  go_wp2_with fail
  refine (trimStack_none bp n cap a p w hp hst (by omega)).mono ?_
  rintro e w' ⟨rfl, rfl⟩
  have k3 := hp.lineno
  have k4 := hp.stack
  rw [hst] at k4
  have f4 := hp.fr 4
  have HD := Lib.hid hd
  have HS := Lib.hid hst
  clear hd hst k5
  have hbp := hp.lt
  go_wp2_with (at_builtin; refine ap_ob rfl (.tmp 16) (.tmp 18) rfl _ n l rfl (hown.alloc _) w.heap.size 1 [.nilIface, .slice none 0 0, .int .i64 0, .int .i64 0] rfl rfl ?_ ?_ (by omega) ?_)
  · intro j u hj
    rw [(Blk.newAt (w := w) _ _ rfl).cell j]
    simpa using hj
  · intro u hu
    simp at hu
    rcases hu with rfl | rfl | rfl | rfl <;> rfl
  · intro g cap' w1 hown1 hgrow hloc
    have hlen : l.length = n * 4 := hown.1
    obtain ⟨g', cap'', he, ⟨cur, hcur⟩, hgf, hgc⟩ := ownsRow_form hown1 (by omega)
    cases he
    have hgS : g < w.heap.size → (fun k => k = bp ∨ p.stack.ownBlock = some k) g := by
      intro hlt
      rcases hloc with h | h
      · exact Or.inr (by rw [HS.out]; exact h)
      · have : (w.alloc (.cells #[.nilIface, .slice none 0 0, .int .i64 0, .int .i64 0] 121)).heap.size = w.heap.size + 1 := by simp
        omega
    have hmA := grown_mods hgrow
    have hk : Mods (fun k => k = bp ∨ p.stack.ownBlock = some k) w w1 :=
      ((Mods.refl _ w).alloc _).trans (hmA.mono (fun k _ h => Or.inr (by rw [HS.out]; exact h)))
    have hp1 : PsAt w1 bp p := (hp.alloc _).keep hmA (fun h => hne bp h rfl)
    obtain ⟨tail, htl⟩ := id hp1
    have hgbp : g ≠ bp := hcur.ne_of_type htl (by decide)
    have hbpg : bp ≠ g := Ne.symm hgbp
    have c0 : w1.cell? ⟨g, n * 4, none⟩ = some .nilIface := hgc (n * 4) _ (by simp [hlen])
    have c2 : w1.cell? ⟨g, n * 4 + 2, none⟩ = some (.int .i64 0) := hgc (n * 4 + 2) _ (by simp [hlen])
    have c3 : w1.cell? ⟨g, n * 4 + 3, none⟩ = some (.int .i64 0) := hgc (n * 4 + 3) _ (by simp [hlen])
    have g0 := hgf (n * 4)
    have g2 := hgf (n * 4 + 2)
    have g3 := hgf (n * 4 + 3)
    have hgl := hcur.lt
    clear k3 k4 f4 hbp
    have k3 := hp1.lineno
    have k4 := hp1.stack
    have f4 := hp1.fr 4
    have hbp := hp1.lt
    have HL := Lib.hid hlen
    clear hlen htl hgc hgf hgrow
    have w1' : IntKind.i64.wrap (n : Int) = n := IntWalk.i64_in _ (by omega)
    have w2 : (0 : Int) ≤ n := by omega
    have w3 : (n : Int) < (n : Int) + 1 := by omega
    go_wp2_with fail
    go_quiet (fail)
    go_wp2
    go_end0
    refine ⟨rfl, ?_, g, cap', ?_, ?_, fun hlt => (hgS hlt).elim (fun h => absurd h hgbp) (fun h => h)⟩
    · exact mods_add hk _ _ (Or.inl rfl) hgS _ _ _ _
    · exact ps_add hp1 hgbp _ _ _ _ _ _
    · exact row_add HL.out hgbp _ _ _ _ _ hown1
end Go.Proofs.YtdnlfdppjfjncaaGreatDoor

/- newPara where no paragraph is open: a new one, with this line. -/
namespace Go.Proofs.YtdnlfdppjfjncaaGreatDoor
open Go Go.RowKit Go.Proofs

abbrev zeroLV : Value := .agg #[.int .i64 0, .int .i64 0, .int .i64 0, .string ⟨#[]⟩, .int .u8 0]

/-- Option k of the parser has this value. -/
def Opt (w : World) (p : PSt) (k : Nat) (b : Bool) : Prop := ∃ cs, Blk w p.parser cs 76 ∧ cs[k]? = some (.bool b)
theorem Opt.cell {w : World} {p : PSt} {k : Nat} {b : Bool} (h : Opt w p k b) : w.cell? ⟨p.parser, k, none⟩ = some (.bool b) := by
  obtain ⟨cs, h1, h2⟩ := h
  rw [h1.cell, h2]
theorem Opt.keep {w w' : World} {p : PSt} {k : Nat} {b : Bool} {S : Nat → Prop} (h : Opt w p k b) (hm : Mods S w w') (hS : ¬ S p.parser) : Opt w' p k b := by
  obtain ⟨cs, h1, h2⟩ := h
  exact ⟨cs, h1.keep hm hS, h2⟩

structure ParaNew (w w' : World) (bp : Nat) (p : PSt) (n : Nat) (l : List Value) (s : ByteArray) : Prop where
  mods : Mods (fun k => k = bp ∨ p.stack.ownBlock = some k) w w'
  ex : ∃ g cap bb tv, PsAt w' bp { p with stack := .slice (some ⟨g, 0, none⟩) (n + 2) cap } ∧
    w'.ownsRow 0 121 4 (.slice (some ⟨g, 0, none⟩) (n + 2) cap) (n + 2) (l ++ [.iface 162 (.pointer (some ⟨bb, 0, none⟩)), .slice none 0 0, .int .i64 p.lineno, .int .i64 p.lineno]) ∧
    Blk w' bb #[tv, .pointer none] 166 ∧ w'.ownsRow 0 9 1 tv 1 [.string s] ∧ w.heap.size ≤ bb ∧ (g < w.heap.size → p.stack.ownBlock = some g) ∧ (∀ k, tv.ownBlock = some k → w.heap.size ≤ k)

set_option maxRecDepth 100000 in
set_option maxHeartbeats 4000000 in
theorem newPara_first (bp g n cap : Nat) (p : PSt) (T : Nat) (v : Value) (l : List Value) (text : ByteArray) (i : Nat) (nl : Int) (w : World) (h : NoPara w bp g n cap p T v) (hd : p.depth = n) (hn : n ≤ 100)
    (hi : i ≤ text.size) (hs : text.size ≤ 1000000) (hO : Opt w p 5 false) (hown : w.ownsRow 0 121 4 p.stack (n + 1) l) :
    Calls Tryz.prog 72 #[.pointer (some ⟨bp, 0, none⟩), LV i text nl] w fun e w' => e = .returned (.tuple #[zeroLV, .bool true]) ∧ ParaNew w w' bp p n l (trimL (text.extract i text.size)) := by
  have HD := Lib.hid hd
  clear hd
  go_enter Tryz.func72, Tryz.ntmps72
  go_wp2_with fail
  generalize hW : ((w.alloc _).alloc _ : World) = W
  have hm0 : Same w W := by subst hW; exact ((Mods.refl _ w).alloc _).alloc _
  have hb : LineAt W w.heap.size i text nl := by subst hW; exact (Blk.newAt _ _ rfl).alloc _
  have hr : LineAt W (w.heap.size + 1) 0 ⟨#[]⟩ 0 := by subst hW; exact Blk.newAt _ _ (by simp)
  clear hW
  have h1 := h.same hm0
  have hown1 := ownsRow_keep hown hm0 (fun _ _ x => x)
  have hO1 := hO.keep hm0 (fun x => x)
  refine (para_other bp g n cap p T v W h1.at_ h1.stack h1.small h1.top h1.other).mono ?_
  rintro e w1 ⟨rfl, n1, rfl⟩
  have k4 := h1.at_.stack
  rw [h1.stack] at k4
  have k5 := h1.at_.depth
  rw [HD.out] at k5
  have e1 : IntKind.i64.wrap ((n : Int) + 1 - 2) = (n : Int) - 1 := by rw [IntWalk.i64_in _ (by omega)]; omega
  have e2 : ((n : Int) == (n : Int) - 1) = false := beq_eq_false_iff_ne.2 (by omega)
  go_wp2_with fail
  go_quiet (fail)
  generalize hX : ((W.drewN n1).drewN _ : World) = W2
  have hm1 : Same W W2 := by subst hX; exact ((Mods.refl _ W).drewN _).drewN _
  clear hX k4 k5 e1 e2
  have h2 := h1.same hm1
  have hb2 := Same.blk hm1 hb
  have hr2 := Same.blk hm1 hr
  have hown2 := ownsRow_keep hown1 hm1 (fun _ _ x => x)
  have hO2 := hO1.keep hm1 (fun x => x)
  have hk := hm0.trans hm1
  clear h1 hb hr hown1 hO1 hm0 hm1
  go_wp2_with fail
  refine (trimSpaceString_any _ _ _ _ _ hs hi hb2).mono ?_
  rintro e w3 ⟨rfl, n3, rfl⟩
  have hm3 : Same W2 (W2.drewN n3) := (Mods.refl _ W2).drewN _
  generalize W2.drewN n3 = W3 at *
  have h3 := h2.same hm3
  have hr3 := Same.blk hm3 hr2
  have hown3 := ownsRow_keep hown2 hm3 (fun _ _ x => x)
  have hO3 := hO2.keep hm3 (fun x => x)
  have hk3 := hk.trans hm3
  clear h2 hb2 hr2 hown2 hO2 hk hm3
  have o5 := hO3.cell
  have k0 := h3.at_.parser
  have hpl : p.parser < W3.heap.size := World.block_lt_of_cell? _ _ o5
  have hbpl := h3.at_.lt
  go_wp2_with fail
  go_quiet (fail)
  generalize hX : (W3.drewN _ : World) = W4
  have hm4 : Same W3 W4 := by subst hX; exact (Mods.refl _ W3).drewN _
  clear hX o5 k0 hpl hbpl
  have h4 := h3.same hm4
  have hr4 := Same.blk hm4 hr3
  have hown4 := ownsRow_keep hown3 hm4 (fun _ _ x => x)
  have hk4 := hk3.trans hm4
  clear h3 hr3 hown3 hO3 hk3 hm4
  have hgl : g < W4.heap.size := World.block_lt_of_cell? _ _ h4.top
  have hbl := h4.at_.lt
  have hB0 : Blk (W4.alloc (.cells #[.slice none 0 0, .pointer none] 166)) W4.heap.size #[.slice none 0 0, .pointer none] 166 := Blk.newAt _ _ rfl
  have hmB : Same W4 (W4.alloc (.cells #[.slice none 0 0, .pointer none] 166)) := (Mods.refl _ _).alloc _
  go_wp2_with fail
  have hown4' : (W4.alloc (.cells #[.slice none 0 0, .pointer none] 166)).ownsRow 0 121 4 (.slice (some ⟨g, 0, none⟩) (n + 1) cap) (n + 1) l := by
    have := ownsRow_keep hown4 hmB (fun _ _ x => x)
    rwa [h4.stack] at this
  obtain ⟨tail, htl⟩ := id h4.at_
  obtain ⟨_, _, he, ⟨cur, hcur⟩, _, _⟩ := ownsRow_form (h4.stack ▸ hown4) (by omega)
  cases he
  have hgbp : g ≠ bp := hcur.ne_of_type htl (by decide)
  refine (addBlock_any bp (n + 1) cap (some ⟨g, 0, none⟩) p 162 (.pointer (some ⟨W4.heap.size, 0, none⟩)) l n _ (h4.at_.same hmB) h4.stack (by omega) HD.out (by omega) hown4' (by intro g' hg'; cases hg'; exact hgbp) rfl).mono ?_
  rintro e w5 ⟨rfl, hadd⟩
  obtain ⟨g5, cap5, hp5, hown5, hloc5⟩ := hadd.ex
  have HLOC5 := Lib.hid hloc5
  clear hloc5
  have hm5 := hadd.mods
  have hgl0 : g < w.heap.size := World.block_lt_of_cell? _ _ h.top
  have hbl0 := h.at_.lt
  have hB5 := hB0.keep hm5 (by rw [h4.stack]; intro h; rcases h with h | h; omega; have hh : g = W4.heap.size := Option.some.inj h; omega)
  have hr5 := Blk.keep (hr4.alloc (.cells #[.slice none 0 0, .pointer none] 166)) hm5 (by rw [h4.stack]; intro h; rcases h with h | h; omega; have hh : g = w.heap.size + 1 := Option.some.inj h; omega)
  have b0 : w5.cell? ⟨W4.heap.size, 0, none⟩ = some (.slice none 0 0) := hB5.cell 0
  have bf := hB5.fr 0
  have bl := hB5.lt
  go_wp2_with (at_builtin; refine ap_str rfl (.tmp 168) (.tmp 170) rfl _ 0 [] rfl (World.ownsRow_nil _ _ _ _) w5.heap.size 1 (trimL (text.extract i text.size)) rfl ?_ (by omega) ?_)
  · exact (Blk.newAt (w := w5) _ _ rfl).cell 0
  · intro g6 cap6 w6 hown6 hgrow hloc
    have hm6 : Same w5 w6 := ((Mods.refl _ w5).alloc _).trans ((grown_mods hgrow).mono (fun k _ h => by cases h))
    have hB6 := Same.blk hm6 hB5
    have hr6 := Same.blk hm6 hr5
    have hp6 := hp5.same hm6
    have hown5' := ownsRow_keep hown5 hm6 (fun _ _ x => x)
    have HLOC := Lib.hid hloc
    clear b0 bf bl hgrow hloc hB5 hr5 hp5 hown5
    have b0 : w6.cell? ⟨W4.heap.size, 0, none⟩ = some (.slice none 0 0) := hB6.cell 0
    have bf := hB6.fr 0
    have bl := hB6.lt
    obtain ⟨r0, r1, r2, r3, r4, rf0, rf1, rf2, rf3, rf4, rbl⟩ := LineAt.facts hr6
    have hne : W4.heap.size ≠ w.heap.size + 1 := by have := hr4.lt; omega
    go_wp2
    have hL7 : LineAt (w6.setCell ⟨W4.heap.size, 0, none⟩ (.slice (some ⟨g6, 0, none⟩) 1 cap6)) (w.heap.size + 1) 0 ⟨#[]⟩ 0 := Blk.set_other hr6 (a := ⟨W4.heap.size, 0, none⟩) hne _
    have hB7 := hB6.set_same 0 (.slice (some ⟨g6, 0, none⟩) 1 cap6)
    have hm7 : Mods (fun k => k = W4.heap.size ∨ k = w.heap.size + 1) w6 (P5 (w6.setCell ⟨W4.heap.size, 0, none⟩ (.slice (some ⟨g6, 0, none⟩) 1 cap6)) (w.heap.size + 1) 0 ⟨#[]⟩ 0) :=
      ((Mods.refl (fun k => k = W4.heap.size ∨ k = w.heap.size + 1) w6).setCell (p := ⟨W4.heap.size, 0, none⟩) (fun _ => Or.inl rfl) _).trans ((put5 hL7 0 ⟨#[]⟩ 0).1.mono (fun _ _ h => Or.inr h))
    have hsz := hk4.size
    refine bodyPost_ret (v := .tuple #[zeroLV, .bool true]) (by simp [results, Tryz.results72, go_sem, r0, r1, r2, r3, r4]) rfl ⟨rfl, ?_, g5, cap5, W4.heap.size, .slice (some ⟨g6, 0, none⟩) 1 cap6, ?_, ?_, ?_, ?_, hsz, fun hlt => HLOC5.out (by have := hmB.size; omega), ?_⟩
    · have m1 : Same w (W4.alloc (.cells #[.slice none 0 0, .pointer none] 166)) := hk4.trans hmB
      have m2 : Mods (fun k => k = bp ∨ p.stack.ownBlock = some k) w w5 := (m1.mono (fun _ _ h => absurd h (fun x => x))).then hm5 (fun _ _ h => h)
      have m3 : Mods (fun k => k = bp ∨ p.stack.ownBlock = some k) w w6 := m2.then hm6 (fun _ _ h => absurd h (fun x => x))
      exact m3.then hm7 (fun b hb h => by omega)
    · exact hp6.keep hm7 (by omega)
    · obtain ⟨_, _, he5, ⟨cur5, hcur5⟩, _, _⟩ := ownsRow_form hown5' (by omega)
      cases he5
      have n1 := hcur5.ne_of_type hB6 (by decide)
      have n2 := hcur5.ne_of_type hr6 (by decide)
      exact ownsRow_keep hown5' hm7 (by intro k hk; cases hk; intro h; rcases h with h | h; exact n1 h; exact n2 h)
    · exact hB7.keep1 (put5 hL7 0 ⟨#[]⟩ 0).1 hne
    · obtain ⟨_, _, he6, ⟨cur6, hcur6⟩, _, _⟩ := ownsRow_form hown6 (by omega)
      cases he6
      have n1 := hcur6.ne_of_type hB6 (by decide)
      have n2 := hcur6.ne_of_type hr6 (by decide)
      exact ownsRow_keep hown6 hm7 (by intro k hk; cases hk; intro h; rcases h with h | h; exact n1 h; exact n2 h)
    · intro k hk
      cases hk
      rcases HLOC.out with h | h
      · cases h
      · show w.heap.size ≤ g6
        have := hm5.size
        have := hmB.size
        omega
end Go.Proofs.YtdnlfdppjfjncaaGreatDoor

/- What the builders ask of the state; building a paragraph, and the document. -/
namespace Go.Proofs.YtdnlfdppjfjncaaGreatDoor
open Go Go.RowKit Go.Proofs

theorem row_cells {w : World} {g cap n : Nat} {l : List Value} {c i : Value} {s e : Int}
    (hown : w.ownsRow 0 121 4 (.slice (some ⟨g, 0, none⟩) (n + 1) cap) (n + 1) (l ++ [c, i, .int .i64 s, .int .i64 e])) :
    w.cell? ⟨g, n * 4, none⟩ = some c ∧ w.cell? ⟨g, n * 4 + 1, none⟩ = some i ∧ w.cell? ⟨g, n * 4 + 2, none⟩ = some (.int .i64 s) ∧ w.cell? ⟨g, n * 4 + 3, none⟩ = some (.int .i64 e) ∧
      (∀ k, w.frozen? ⟨g, k, none⟩ = false) ∧ g < w.heap.size := by
  have hlen : l.length = n * 4 := by have := hown.1; simp at this; omega
  obtain ⟨_, _, he, ⟨cur, hcur⟩, hf, hg⟩ := ownsRow_form hown (by omega)
  cases he
  exact ⟨hg _ _ (by simp [hlen]), hg _ _ (by simp [hlen]), hg _ _ (by simp [hlen]), hg _ _ (by simp [hlen]), hf, hcur.lt⟩

set_option maxHeartbeats 1000000 in
theorem pos_any (bp g n cap : Nat) (p : PSt) (l : List Value) (c i : Value) (s e : Int) (w : World) (hp : PsAt w bp p) (hst : p.stack = .slice (some ⟨g, 0, none⟩) (n + 1) cap) (hn : n ≤ 1000)
    (hown : w.ownsRow 0 121 4 (.slice (some ⟨g, 0, none⟩) (n + 1) cap) (n + 1) (l ++ [c, i, .int .i64 s, .int .i64 e])) :
    Calls Tryz.prog 260 #[.pointer (some ⟨bp, 0, none⟩)] w fun e' w' => e' = .returned (.agg #[.int .i64 s, .int .i64 e]) ∧ Same w w' := by
  obtain ⟨c0, c1, c2, c3, cf, cl⟩ := row_cells hown
  have k4 := hp.stack
  rw [hst] at k4
  clear hst
  have cf2 := cf (n * 4 + 2)
  clear cf
  have w1 : IntKind.i64.wrap (n : Int) = n := IntWalk.i64_in _ (by omega)
  have w2 : (0 : Int) ≤ n := by omega
  have w3 : (n : Int) < (n : Int) + 1 := by omega
  have hbl := hp.lt
  go_enter Tryz.func260, Tryz.ntmps260
  go_wp2_with fail
  go_quiet (fail)
  go_wp2
  exact bodyPost_ret (v := .agg #[.int .i64 s, .int .i64 e]) (by simp [results, Tryz.results260, go_sem]) rfl ⟨rfl, by
    have h1 : Same w ((w.alloc (.cells #[.int .i64 0, .int .i64 0] 108)).drewN nq) := ((Mods.refl _ w).alloc _).drewN nq
    exact (h1.setCell (p := ⟨w.heap.size, 0, none⟩) (fun h => absurd h (Nat.lt_irrefl _)) _).setCell (p := ⟨w.heap.size, 1, none⟩) (fun h => absurd h (Nat.lt_irrefl _)) _⟩

set_option maxHeartbeats 1000000 in
theorem blocks_any (bp g n cap : Nat) (p : PSt) (l : List Value) (c i : Value) (s e : Int) (w : World) (hp : PsAt w bp p) (hst : p.stack = .slice (some ⟨g, 0, none⟩) (n + 1) cap) (hn : n ≤ 1000)
    (hown : w.ownsRow 0 121 4 (.slice (some ⟨g, 0, none⟩) (n + 1) cap) (n + 1) (l ++ [c, i, .int .i64 s, .int .i64 e])) :
    Calls Tryz.prog 259 #[.pointer (some ⟨bp, 0, none⟩)] w fun e' w' => e' = .returned i ∧ ∃ k, w' = w.drewN k := by
  obtain ⟨c0, c1, c2, c3, cf, cl⟩ := row_cells hown
  have k4 := hp.stack
  rw [hst] at k4
  clear hst cf
  have w1 : IntKind.i64.wrap (n : Int) = n := IntWalk.i64_in _ (by omega)
  have w2 : (0 : Int) ≤ n := by omega
  have w3 : (n : Int) < (n : Int) + 1 := by omega
  have hbl := hp.lt
  go_enter Tryz.func259, Tryz.ntmps259
  go_wp2_with fail
  go_quiet (fail)
  go_wp2
  go_ret
  exact ⟨rfl, _, rfl⟩

set_option maxHeartbeats 1000000 in
theorem skipSpace_none (s : ByteArray) (i : Nat) (w : World) (hi : i < s.size) (_hs : s.size ≤ 1000000)
    (h1 : s[i] ≠ 32) (h2 : s[i] ≠ 9) (h3 : s[i] ≠ 10) :
    Calls Tryz.prog 124 #[.string s, .int .i64 i] w fun e w' => e = .returned (.int .i64 i) ∧ w = w' := by
  have e1 : ((s[i].toNat : Int) == 32) = false := beq_eq_false_iff_ne.2 (ne32 h1)
  have e2 : ((s[i].toNat : Int) == 9) = false := beq_eq_false_iff_ne.2 (ne9 h2)
  have e3 : ((s[i].toNat : Int) == 10) = false := beq_eq_false_iff_ne.2 (fun e => h3 (UInt8.toNat_inj.1 (by show _ = 10; omega)))
  clear h1 h2 h3
  go_enter Tryz.func124, Tryz.ntmps124
  go_wp2
  go_loopg [1] 0 (fun g j wr => w = wr ∧ j = .int .i64 i)
  case atStart => exact ⟨rfl, rfl⟩
  case round =>
    obtain ⟨rfl, rfl⟩ := hrel
    go_wp2
    go_ret
    exact ⟨rfl, rfl⟩

set_option maxHeartbeats 1000000 in
theorem parseLinkLabel_no (q : Value) (s : ByteArray) (i : Nat) (w : World) (hi : i < s.size) (_hs : s.size ≤ 1000000) (h1 : s[i] ≠ 91) :
    Calls Tryz.prog 127 #[q, .string s, .int .i64 i] w fun e w' => e = .returned (.tuple #[.string ⟨#[]⟩, .int .i64 0, .bool false]) ∧ w = w' := by
  have e1 : ((s[i].toNat : Int) != 91) = true := bne_iff_ne.2 (fun e => h1 (UInt8.toNat_inj.1 (by show _ = 91; omega)))
  go_enter Tryz.func127, Tryz.ntmps127
  go_wp2
  go_ret3
  exact ⟨rfl, rfl⟩

theorem as_ps_yes (v : Value) (w : World) : (Instr.typeAssert (.iface 116 v) 343 116 false).run Tryz.prog w = .ok v w := by kernel_rfl

set_option maxRecDepth 100000 in
set_option maxHeartbeats 1000000 in
theorem parseLinkRefDef_no (q : Value) (s : ByteArray) (w : World) (h0 : 0 < s.size) (hs : s.size ≤ 1000000) (h1 : s[0] ≠ 32) (h2 : s[0] ≠ 9) (h3 : s[0] ≠ 10) (h4 : s[0] ≠ 91) :
    Calls Tryz.prog 291 #[.iface 116 q, .string s] w fun e w' => e = .returned (.tuple #[.int .i64 0, .bool false]) ∧ w = w' := by
  have hA := as_ps_yes
  go_enter Tryz.func291, Tryz.ntmps291
  go_wp2_with fail
  refine (skipSpace_none s 0 w h0 hs h1 h2 h3).mono ?_
  rintro e w' ⟨rfl, rfl⟩
  go_wp2_with fail
  refine (parseLinkLabel_no q s 0 w h0 hs h4).mono ?_
  rintro e w' ⟨rfl, rfl⟩
  go_wp2
  go_ret2
  exact ⟨rfl, rfl⟩
end Go.Proofs.YtdnlfdppjfjncaaGreatDoor

/- newText; a paragraph is built. -/
namespace Go.Proofs.YtdnlfdppjfjncaaGreatDoor
open Go Go.RowKit Go.Proofs

/-- What newText leaves. -/
structure Texted (w w' : World) (bp : Nat) (p : PSt) (nt : Nat) (lt : List Value) (tb : Nat) (s e : Int) (raw : ByteArray) : Prop where
  mods : Mods (fun k => k = bp ∨ p.texts.ownBlock = some k) w w'
  new : w.heap.size ≤ tb
  text : Blk w' tb #[.int .i64 s, .int .i64 e, .slice none 0 0, .string raw] 110
  ex : ∃ g cap, PsAt w' bp { p with texts := .slice (some ⟨g, 0, none⟩) (nt + 1) cap } ∧
    w'.ownsRow 0 105 1 (.slice (some ⟨g, 0, none⟩) (nt + 1) cap) (nt + 1) (lt ++ [.pointer (some ⟨tb, 0, none⟩)])

set_option maxHeartbeats 2000000 in
theorem newText_any (bp nt : Nat) (p : PSt) (lt : List Value) (s e : Int) (raw : ByteArray) (w : World) (hp : PsAt w bp p) (hown : w.ownsRow 0 105 1 p.texts nt lt) (hnt : nt ≤ 100000) :
    Calls Tryz.prog 142 #[.pointer (some ⟨bp, 0, none⟩), .agg #[.int .i64 s, .int .i64 e], .string raw] w fun e' w' => ∃ tb, e' = .returned (.pointer (some ⟨tb, 0, none⟩)) ∧ Texted w w' bp p nt lt tb s e raw := by
  go_enter Tryz.func142, Tryz.ntmps142
  have k11 := hp.texts
  have hbl := hp.lt
  generalize htx : p.texts = tx at *
  go_wp2_with (at_builtin; refine ap_txt rfl (.tmp 16) (.tmp 18) rfl tx nt lt rfl (((hown.alloc _).alloc _).alloc _) (w.heap.size + 1 + 1) 1 (some ⟨w.heap.size + 1, 0, none⟩) rfl ?_ (by omega) ?_)
  · exact (Blk.newAt (n := w.heap.size + 1 + 1) _ _ (by simp)).cell 0
  · intro g cap w1 hown1 hgrow hloc
    generalize hW : (((w.alloc _).alloc _).alloc _ : World) = W at *
    have hm0 : Same w W := by subst hW; exact (((Mods.refl _ w).alloc _).alloc _).alloc _
    have hsz : W.heap.size = w.heap.size + 3 := by subst hW; simp
    have hT : Blk W (w.heap.size + 1) #[.int .i64 s, .int .i64 e, .slice none 0 0, .string raw] 110 := by
      subst hW; exact (Blk.newAt _ _ (by simp)).alloc _
    clear hW
    have hmA := grown_mods hgrow
    have hp1 : PsAt w1 bp p := by
      refine (hp.same hm0).keep hmA (fun h => ?_)
      obtain ⟨tail, htl⟩ := id hp
      rcases hown.2 with ⟨rfl, _⟩ | ⟨g', cap', cur', rfl, _, hg', _⟩
      · cases h
      · cases h
        exact Blk.ne_of_type (T := 105) hg' htl (by decide) rfl
    have hT1 := hT.keep hmA (fun h => by have := (hown.lt _ h).2; omega)
    have k11' := hp1.texts
    rw [htx] at k11'
    have f11 := hp1.fr 11
    have hbl1 := hp1.lt
    clear k11 hbl
    go_wp2
    go_ret
    obtain ⟨_, _, he, ⟨cur, hcur⟩, _, _⟩ := ownsRow_form hown1 (by omega)
    cases he
    obtain ⟨tail, htl⟩ := id hp1
    have hgbp : g ≠ bp := hcur.ne_of_type htl (by decide)
    have htbp : w.heap.size + 1 ≠ bp := hT1.ne_of_type htl (by decide)
    have hm2 : Mods (fun k => k = bp) w1 (w1.setCell ⟨bp, 11, none⟩ (.slice (some ⟨g, 0, none⟩) (nt + 1) cap)) := (Mods.refl (fun k => k = bp) w1).setCell (p := ⟨bp, 11, none⟩) (fun _ => rfl) _
    refine ⟨w.heap.size + 1, rfl, ?_, by omega, hT1.keep1 hm2 htbp, g, cap, hp1.set 11 _ _ rfl (by decide), ?_⟩
    · have m1 : Mods (fun k => k = bp ∨ p.texts.ownBlock = some k) w w1 := (hm0.mono (fun _ _ h => absurd h (fun x => x))).then hmA (fun _ _ h => Or.inr (by rw [htx]; exact h))
      exact m1.then hm2 (fun _ _ h => Or.inl h)
    · exact ownsRow_keep hown1 hm2 (fun g' hg' => by cases hg'; exact hgbp)

/-- newText beside a block of two numbers that it does not touch. -/
theorem newText_beside (bp nt : Nat) (p : PSt) (lt : List Value) (s e : Int) (raw : ByteArray) (w : World) (pb : Nat) (x y : Int) (hp : PsAt w bp p) (hown : w.ownsRow 0 105 1 p.texts nt lt) (hnt : nt ≤ 100000)
    (hP : Blk w pb #[.int .i64 x, .int .i64 y] 108) :
    Calls Tryz.prog 142 #[.pointer (some ⟨bp, 0, none⟩), .agg #[.int .i64 s, .int .i64 e], .string raw] w fun e' w' => ∃ tb, e' = .returned (.pointer (some ⟨tb, 0, none⟩)) ∧ Texted w w' bp p nt lt tb s e raw ∧
      w'.cell? ⟨pb, 0, none⟩ = some (.int .i64 x) ∧ w'.cell? ⟨pb, 1, none⟩ = some (.int .i64 y) :=
  (newText_any bp nt p lt s e raw w hp hown hnt).mono fun e' w' ⟨tb, he, hT⟩ => by
    have hk := hP.keep hT.mods (by
      intro h
      rcases h with h | h
      · obtain ⟨tail, htl⟩ := id hp
        exact hP.ne_of_type htl (by decide) h
      · rcases hown.2 with ⟨h2, _⟩ | ⟨g', cap', cur', h2, _, hg', _⟩
        · rw [h2] at h; cases h
        · rw [h2] at h
          have : g' = pb := Option.some.inj h
          exact hP.ne_of_type (T' := 105) hg' (by decide) this.symm)
    exact ⟨tb, he, hT, hk.cell 0, hk.cell 1⟩

theorem m_pos (k : Nat) (a : Addr) (w : World) : (method (k + 1) 116 (.pointer (some a)) "pub-paratext/pub/rscmarkdown.pos").run Tryz.prog w = .ok (260, .pointer (some a)) w := by kernel_rfl
theorem m_newText (k : Nat) (a : Addr) (w : World) : (method (k + 1) 116 (.pointer (some a)) "pub-paratext/pub/rscmarkdown.newText").run Tryz.prog w = .ok (142, .pointer (some a)) w := by kernel_rfl
theorem m_blocks (k : Nat) (a : Addr) (w : World) : (method (k + 1) 116 (.pointer (some a)) "pub-paratext/pub/rscmarkdown.blocks").run Tryz.prog w = .ok (259, .pointer (some a)) w := by kernel_rfl

/-- What building a paragraph leaves. -/
structure ParaBuilt (w w' : World) (bp : Nat) (p : PSt) (nt : Nat) (lt : List Value) (s e : Int) (raw : ByteArray) (v : Value) : Prop where
  mods : Mods (fun k => k = bp ∨ p.texts.ownBlock = some k) w w'
  ex : ∃ pk tb g cap, v = .iface 153 (.pointer (some ⟨pk, 0, none⟩)) ∧ w.heap.size ≤ pk ∧ w.heap.size ≤ tb ∧
    Blk w' pk #[.int .i64 s, .int .i64 e, .pointer (some ⟨tb, 0, none⟩)] 155 ∧
    Blk w' tb #[.int .i64 s, .int .i64 e, .slice none 0 0, .string raw] 110 ∧
    PsAt w' bp { p with texts := .slice (some ⟨g, 0, none⟩) (nt + 1) cap } ∧
    w'.ownsRow 0 105 1 (.slice (some ⟨g, 0, none⟩) (nt + 1) cap) (nt + 1) (lt ++ [.pointer (some ⟨tb, 0, none⟩)])

theorem ParaBuilt.mk' {w W w4 : World} {bp : Nat} {p : PSt} {nt : Nat} {lt : List Value} {s e : Int} {raw : ByteArray} {tb : Nat} (hk : Same w W) (hT : Texted W w4 bp p nt lt tb s e raw) :
    ParaBuilt w (w4.alloc (.cells #[.int .i64 s, .int .i64 e, .pointer (some ⟨tb, 0, none⟩)] 155)) bp p nt lt s e raw (.iface 153 (.pointer (some ⟨w4.heap.size, 0, none⟩))) := by
  obtain ⟨g, cap, hp, hrow⟩ := hT.ex
  have hm : Mods (fun k => k = bp ∨ p.texts.ownBlock = some k) w w4 := (hk.mono (fun _ _ h => absurd h (fun x => x))).then hT.mods (fun _ _ h => h)
  have h1 := hk.size
  have h2 := hT.mods.size
  have h3 := hT.new
  exact ⟨hm.alloc _, w4.heap.size, tb, g, cap, rfl, by omega, by omega, Blk.newAt _ _ rfl, hT.text.alloc _, hp.alloc _, hrow.alloc _⟩

set_option maxRecDepth 100000 in
set_option maxHeartbeats 2000000 in
theorem paraBuild_any (bp bb g n cap nt : Nat) (p : PSt) (l lt : List Value) (c i tv : Value) (sl el : Int) (nl : Nat) (_xs : List Value) (s : ByteArray) (w : World) (hp : PsAt w bp p) (hst : p.stack = .slice (some ⟨g, 0, none⟩) (n + 1) cap) (hn : n ≤ 1000)
    (hown : w.ownsRow 0 121 4 (.slice (some ⟨g, 0, none⟩) (n + 1) cap) (n + 1) (l ++ [c, i, .int .i64 sl, .int .i64 el]))
    (hB : Blk w bb #[tv, .pointer none] 166) (htv : ∃ a cp, tv = .slice a nl cp) (hnl : nl ≤ 100000)
    (htx : w.ownsRow 0 105 1 p.texts nt lt) (hnt : nt ≤ 100000)
    (hJ : ∀ W, Same w W → Calls Tryz.prog 29 #[tv, .string ⟨#[10]⟩] W fun e W' => e = .returned (.string s) ∧ Same W W')
    (h0 : 0 < s.size) (hs : s.size ≤ 1000000) (h1 : s[0] ≠ 32) (h2 : s[0] ≠ 9) (h3 : s[0] ≠ 10) (h4 : s[0] ≠ 91) (hsl : 0 ≤ sl) (hsl2 : sl ≤ 1000000) :
    Calls Tryz.prog 288 #[.pointer (some ⟨bb, 0, none⟩), .iface 116 (.pointer (some ⟨bp, 0, none⟩))] w
      fun e w' => ∃ v, e = .returned v ∧ ParaBuilt w w' bp p nt lt sl (sl + nl - 1) s v := by
  obtain ⟨a0, cp, rfl⟩ := htv
  have b0 : w.cell? ⟨bb, 0, none⟩ = some (.slice a0 nl cp) := hB.cell 0
  have b1 : w.cell? ⟨bb, 1, none⟩ = some (.pointer none) := hB.cell 1
  go_enter Tryz.func288, Tryz.ntmps288
  go_wp2_with fail
  refine (hJ w (Mods.refl _ _)).mono ?_
  rintro e w1 ⟨rfl, hm1⟩
  have hB1 := Same.blk hm1 hB
  clear b0 b1 hJ
  have e0 : s.toList.isEmpty = false := bs_ne h0
  have e0' : (!s.toList.isEmpty) = true := by rw [e0]; rfl
  go_wp2_with fail
  go_loopg [5, 6, 7] 0 (fun g a b c wr => w1 = wr ∧ a = .string s)
  case atStart => exact ⟨rfl, rfl⟩
  case round =>
    obtain ⟨rfl, rfl⟩ := hrel
    go_wp2_with fail
    refine (parseLinkRefDef_no _ s w1 h0 hs h1 h2 h3 h4).mono ?_
    rintro e w' ⟨rfl, rfl⟩
    have hpos := m_pos
    have hntx := m_newText
    go_wp2_with fail
    have hp1 := hp.same hm1
    have hown1 := ownsRow_keep hown hm1 (fun _ _ x => x)
    refine (pos_any bp g n cap p l c i sl el w1 hp1 hst hn hown1).mono ?_
    rintro e w2 ⟨rfl, hm2⟩
    have hB2 := Same.blk hm2 hB1
    have b0 : w2.cell? ⟨bb, 0, none⟩ = some (.slice a0 nl cp) := hB2.cell 0
    have b1 : w2.cell? ⟨bb, 1, none⟩ = some (.pointer none) := hB2.cell 1
    have bbl := hB2.lt
    have e1 : IntKind.i64.wrap (sl + nl) = sl + nl := IntWalk.i64_in _ (by omega)
    have e2 : IntKind.i64.wrap (sl + nl - 1) = sl + nl - 1 := IntWalk.i64_in _ (by omega)
    go_wp2_with fail
    go_region
    go_wp2_with fail
    generalize hX : ((w2.alloc _).drew : World) = W3
    have hm3 : Same w2 W3 := by subst hX; exact ((Mods.refl _ w2).alloc _).drew
    have hP3 : Blk W3 w2.heap.size #[.int .i64 sl, .int .i64 (sl + nl - 1)] 108 := by subst hX; exact Blk.newAt _ _ rfl
    clear hX b0 b1 bbl e1 e2
    have hm13 := (hm1.trans hm2).trans hm3
    have hp3 := hp.same hm13
    have htx3 := ownsRow_keep htx hm13 (fun _ _ x => x)
    have p0 : W3.cell? ⟨w2.heap.size, 0, none⟩ = some (.int .i64 sl) := hP3.cell 0
    have p1 : W3.cell? ⟨w2.heap.size, 1, none⟩ = some (.int .i64 (sl + nl - 1)) := hP3.cell 1
    go_region_with ((go_at_call 142; refine (newText_beside bp nt p lt sl (sl + nl - 1) s _ w2.heap.size sl (sl + nl - 1) (PsAt.drew hp3) htx3 hnt (Blk.drew hP3)).mono ?_; rintro e w4 ⟨tb, rfl, hT, q0, q1⟩))
    all_goals
      go_wp2
      go_ret
      exact ⟨_, rfl, ParaBuilt.mk' (hm13.drew) hT⟩
end Go.Proofs.YtdnlfdppjfjncaaGreatDoor

/- closeBlock where a paragraph is on top; where the document is. -/
namespace Go.Proofs.YtdnlfdppjfjncaaGreatDoor
open Go Go.RowKit Go.Proofs

theorem not_texts {w : World} {bp : Nat} {p : PSt} {nt : Nat} {lt : List Value} (hp : PsAt w bp p) (htx : w.ownsRow 0 105 1 p.texts nt lt) {b : Nat} {cs : Array Value} {T : Nat} (h : Blk w b cs T)
    (h1 : T ≠ 95) (h2 : T ≠ 105) : ¬ (b = bp ∨ p.texts.ownBlock = some b) := by
  intro hh
  rcases hh with hh | hh
  · obtain ⟨tail, htl⟩ := id hp
    exact h.ne_of_type htl h1 hh
  · rcases htx.2 with ⟨hv, _⟩ | ⟨g', cap', cur', hv, _, hg', _⟩
    · rw [hv] at hh; cases hh
    · rw [hv] at hh
      have : g' = b := Option.some.inj hh
      exact h.ne_of_type (T' := 105) hg' h2 this.symm

/-- A row of another type is kept where only the state and the list of texts have changed. -/
theorem row_texts {w w' : World} {bp : Nat} {p : PSt} {nt : Nat} {lt : List Value} (hp : PsAt w bp p) (htx : w.ownsRow 0 105 1 p.texts nt lt) (hm : Mods (fun k => k = bp ∨ p.texts.ownBlock = some k) w w')
    {e size n : Nat} {v : Value} {xs : List Value} (h : w.ownsRow 0 e size v n xs) (h1 : e ≠ 95) (h2 : e ≠ 105) : w'.ownsRow 0 e size v n xs := by
  refine ownsRow_keep h hm (fun g hg => ?_)
  rcases h.2 with ⟨hv, _⟩ | ⟨g', cap', cur', hv, _, hg', _⟩
  · rw [hv] at hg; cases hg
  · rw [hv] at hg
    have : g' = g := Option.some.inj hg
    subst this
    exact not_texts hp htx (T := e) hg' h1 h2

theorem ownsRow_pop {w : World} {e size n g cap : Nat} {xs ys : List Value} (h : w.ownsRow 0 e size (.slice (some ⟨g, 0, none⟩) (n + 1) cap) (n + 1) (xs ++ ys)) (hy : ys.length = size) :
    w.ownsRow 0 e size (.slice (some ⟨g, 0, none⟩) n cap) n xs := by
  obtain ⟨h1, h2⟩ := h
  have hx : xs.length = n * size := by
    rw [List.length_append, hy, Nat.add_mul] at h1
    omega
  refine ⟨hx, .inr ?_⟩
  rcases h2 with ⟨h2, _⟩ | ⟨g', cap', cur, hv, hb, hg, hc, hm, hs, ht⟩
  · cases h2
  · cases hv
    refine ⟨g, cap, cur, rfl, hb, hg, by omega, hm, hs, ?_⟩
    have : (cur.toList.take ((n + 1) * size)).take (n * size) = xs := by
      rw [ht, ← hx]; simp
    rw [← this, List.take_take, Nat.min_eq_left (by rw [Nat.add_mul]; omega)]

theorem eql_builder_nil (T : Nat) (v : Value) (w : World) : (binOp .eql 118 (.iface T v) .nilIface).run Tryz.prog w = .ok (.bool false) w := by kernel_rfl
theorem m_build_para (k : Nat) (a : Addr) (w : World) : (method (k + 1) 162 (.pointer (some a)) "pub-paratext/pub/rscmarkdown.build").run Tryz.prog w = .ok (288, .pointer (some a)) w := by kernel_rfl
theorem m_build_root (k : Nat) (a : Addr) (w : World) : (method (k + 1) 98 (.pointer (some a)) "pub-paratext/pub/rscmarkdown.build").run Tryz.prog w = .ok (247, .pointer (some a)) w := by kernel_rfl
theorem as_List_no (T X : Nat) (v : Value) (w : World) (h : T ≠ 111) :
    (Instr.typeAssert (.iface T v) X 111 true).run Tryz.prog w = .ok (.tuple #[.pointer none, .bool false]) w :=
  as_ptr_no T _ 149 (by kernel_rfl) (fun _ => by kernel_rfl) X v w h

/-- A row's block is none of another type's. -/
theorem own_ne {w : World} {e size n b T : Nat} {v : Value} {xs : List Value} {cs : Array Value} (h : w.ownsRow 0 e size v n xs) (hb : Blk w b cs T) (hT : T ≠ e) : ¬ v.ownBlock = some b := by
  intro hv
  rcases h.2 with ⟨h2, _⟩ | ⟨g', cap', cur', h2, _, hg', _⟩
  · rw [h2] at hv; cases hv
  · rw [h2] at hv
    have : g' = b := Option.some.inj hv
    subst this
    exact hb.ne_of_type (T' := e) hg' hT rfl
theorem own_ne_ps {w : World} {e size n bp : Nat} {p : PSt} {v : Value} {xs : List Value} (h : w.ownsRow 0 e size v n xs) (hp : PsAt w bp p) (he : e ≠ 95) : ¬ v.ownBlock = some bp := by
  obtain ⟨tail, htl⟩ := id hp
  exact own_ne h htl (Ne.symm he)
theorem own_ne_row {w : World} {e size n e' size' n' g : Nat} {v v' : Value} {xs xs' : List Value} (h : w.ownsRow 0 e size v n xs) (h' : w.ownsRow 0 e' size' v' n' xs') (hg : v'.ownBlock = some g) (he : e' ≠ e) : ¬ v.ownBlock = some g := by
  rcases h'.2 with ⟨h2, _⟩ | ⟨g', cap', cur', h2, _, hg', _⟩
  · rw [h2] at hg; cases hg
  · rw [h2] at hg
    have : g' = g := Option.some.inj hg
    subst this
    exact own_ne h hg' he

/-- What closing a paragraph leaves: the parent holds it. -/
structure ParaClosed (w w' : World) (bp g n cap nt ni : Nat) (p : PSt) (l lt li : List Value) (c inner : Value) (sp ep sl el : Int) (s : ByteArray) (v : Value) : Prop where
  mods : Mods (fun k => k = bp ∨ k = g ∨ p.texts.ownBlock = some k ∨ inner.ownBlock = some k) w w'
  ex : ∃ pk tb tg tc ig ic, v = .iface 153 (.pointer (some ⟨pk, 0, none⟩)) ∧ w.heap.size ≤ pk ∧ w.heap.size ≤ tb ∧
    Blk w' pk #[.int .i64 sl, .int .i64 el, .pointer (some ⟨tb, 0, none⟩)] 155 ∧
    Blk w' tb #[.int .i64 sl, .int .i64 el, .slice none 0 0, .string s] 110 ∧
    PsAt w' bp { p with texts := .slice (some ⟨tg, 0, none⟩) (nt + 1) tc, stack := .slice (some ⟨g, 0, none⟩) (n + 1) cap } ∧
    w'.ownsRow 0 105 1 (.slice (some ⟨tg, 0, none⟩) (nt + 1) tc) (nt + 1) (lt ++ [.pointer (some ⟨tb, 0, none⟩)]) ∧
    w'.ownsRow 0 121 4 (.slice (some ⟨g, 0, none⟩) (n + 1) cap) (n + 1) (l ++ [c, .slice (some ⟨ig, 0, none⟩) (ni + 1) ic, .int .i64 sp, .int .i64 ep]) ∧
    w'.ownsRow 0 68 1 (.slice (some ⟨ig, 0, none⟩) (ni + 1) ic) (ni + 1) (li ++ [.iface 153 (.pointer (some ⟨pk, 0, none⟩))])

theorem row_in {w : World} {g cap n j : Nat} {l : List Value} {c x y u : Value} {v : Value} (hlen : l.length = n * 4) (hj : j = n * 4 + 1)
    (h : w.ownsRow 0 121 4 (.slice (some ⟨g, 0, none⟩) (n + 1) cap) (n + 1) (l ++ [c, u, x, y])) :
    (w.setCell ⟨g, j, none⟩ v).ownsRow 0 121 4 (.slice (some ⟨g, 0, none⟩) (n + 1) cap) (n + 1) (l ++ [c, v, x, y]) := by
  subst hj
  have h1 := ownsRow_set h (n * 4 + 1) v (by omega)
  have e : (l ++ [c, u, x, y]).set (n * 4 + 1) v = l ++ [c, v, x, y] := by
    rw [← hlen]
    simp
  rw [e] at h1
  exact h1

set_option maxRecDepth 100000 in
set_option maxHeartbeats 4000000 in
theorem closePara (bp bb g n cap nt ni : Nat) (p : PSt) (l lt li : List Value) (c inner i tv : Value) (sp ep sl el : Int) (nl : Nat) (s : ByteArray) (w : World) (hp : PsAt w bp p) (hst : p.stack = .slice (some ⟨g, 0, none⟩) (n + 1 + 1) cap) (hn : n ≤ 100)
    (hown : w.ownsRow 0 121 4 (.slice (some ⟨g, 0, none⟩) (n + 1 + 1) cap) (n + 1 + 1) ((l ++ [c, inner, .int .i64 sp, .int .i64 ep]) ++ [.iface 162 (.pointer (some ⟨bb, 0, none⟩)), i, .int .i64 sl, .int .i64 el]))
    (hin : w.ownsRow 0 68 1 inner ni li) (hni : ni ≤ 100000)
    (hB : Blk w bb #[tv, .pointer none] 166) (htv : ∃ a cp, tv = .slice a nl cp) (hnl : nl ≤ 100000)
    (htx : w.ownsRow 0 105 1 p.texts nt lt) (hnt : nt ≤ 100000)
    (hJ : ∀ W, Same w W → Calls Tryz.prog 29 #[tv, .string ⟨#[10]⟩] W fun e W' => e = .returned (.string s) ∧ Same W W')
    (h0 : 0 < s.size) (hs : s.size ≤ 1000000) (h1 : s[0] ≠ 32) (h2 : s[0] ≠ 9) (h3 : s[0] ≠ 10) (h4 : s[0] ≠ 91) (hsl : 0 ≤ sl) (hsl2 : sl ≤ 1000000) :
    Calls Tryz.prog 73 #[.pointer (some ⟨bp, 0, none⟩)] w fun e w' => ∃ v, e = .returned v ∧ ParaClosed w w' bp g n cap nt ni p l lt li c inner sp ep sl (sl + nl - 1) s v := by
  obtain ⟨c0, c1, c2, c3, cf, cl⟩ := row_cells hown
  have k4 := hp.stack
  rw [hst] at k4
  have hbl := hp.lt
  have w1 : IntKind.i64.wrap ((n : Int) + 1) = (n : Int) + 1 := IntWalk.i64_in _ (by omega)
  have w2 : (0 : Int) ≤ (n : Int) + 1 := by omega
  have w3 : (n : Int) + 1 < (n : Int) + 1 + 1 := by omega
  have w4 : ((n : Int) + 1).toNat = n + 1 := by omega
  have hE := eql_builder_nil
  have hM := m_build_para
  clear cf
  go_enter Tryz.func73, Tryz.ntmps73
  go_wp2_with fail
  go_quiet (fail)
  go_wp2_with fail
  have hD : Same w (w.drewN nq) := (Mods.refl _ w).drewN nq
  generalize hW : (w.drewN nq : World) = W at *
  clear hW
  have hpW := hp.same hD
  have hownW := ownsRow_keep hown hD (fun _ _ x => x)
  have hinW := ownsRow_keep hin hD (fun _ _ x => x)
  have htxW := ownsRow_keep htx hD (fun _ _ x => x)
  refine (paraBuild_any bp bb g (n + 1) cap nt p _ lt _ i tv sl el nl [] s W hpW hst (by omega) hownW (Same.blk hD hB) htv hnl htxW hnt (fun X hX => hJ X (hD.trans hX)) h0 hs h1 h2 h3 h4 hsl hsl2).mono ?_
  rintro e wA ⟨v, rfl, hPB⟩
  obtain ⟨pk, tb, g2, cap2, rfl, hpk, htb, hP, hT, hpA, htxA⟩ := hPB.ex
  have hownA := row_texts hpW htxW hPB.mods hownW (by decide) (by decide)
  have hinA := row_texts hpW htxW hPB.mods hinW (by decide) (by decide)
  clear hJ c0 c1 c2 c3 k4 hbl hpW hinW htxW
  have k4 := hpA.stack
  have f4 := hpA.fr 4
  have hbl := hpA.lt
  have hL := as_List_no 153
  have hL2 := fun X v w => hL X v w (by decide)
  rw [hst] at k4
  have hcap : n + 1 + 1 ≤ cap := by
    rcases hownA.2 with ⟨h, _⟩ | ⟨_, _, _, h, _, _, hc, _⟩
    · cases h
    · cases h; exact hc
  have w5 : (n : Int) + 1 ≤ cap := by omega
  have w6 : IntKind.i64.wrap (n : Int) = n := IntWalk.i64_in _ (by omega)
  have w7 : (0 : Int) < (n : Int) + 1 := by omega
  have w8 : (n : Int) < (n : Int) + 1 := by omega
  have w9 : (0 : Int) ≤ (n : Int) := by omega
  clear hE hM
  go_wp2_with fail
  go_region
  go_wp2_with fail
  generalize hX : ((wA.setCell ⟨bp, 4, none⟩ (.slice (some ⟨g, 0, none⟩) (n + 1) cap)).drew : World) = X
  have hmX : Mods (fun k => k = bp) wA X := by subst hX; exact ((Mods.refl (fun k => k = bp) wA).setCell (p := ⟨bp, 4, none⟩) (fun _ => rfl) _).drew
  have hpX : PsAt X bp { p with texts := .slice (some ⟨g2, 0, none⟩) (nt + 1) cap2, stack := .slice (some ⟨g, 0, none⟩) (n + 1) cap } := by
    subst hX
    exact PsAt.drew (hpA.set 4 _ _ rfl (by decide))
  clear hX
  obtain ⟨tail, htl⟩ := id hpX
  have hne : ∀ {b : Nat} {cs : Array Value} {T : Nat}, Blk X b cs T → T ≠ 95 → b ≠ bp := fun h hT => h.ne_of_type htl hT
  have hneA : ∀ {e size m : Nat} {v : Value} {xs : List Value}, wA.ownsRow 0 e size v m xs → e ≠ 95 → ∀ b, v.ownBlock = some b → ¬ (b = bp) := by
    intro e size m v xs h he b hb
    obtain ⟨tailA, htlA⟩ := id hpA
    rcases h.2 with ⟨h2, _⟩ | ⟨g', cap', cur', h2, _, hg', _⟩
    · rw [h2] at hb; cases hb
    · rw [h2] at hb
      have : g' = b := Option.some.inj hb
      subst this
      exact Blk.ne_of_type (T := e) hg' htlA he
  have hownX := ownsRow_keep hownA hmX (hneA hownA (by decide))
  have htxX := ownsRow_keep htxA hmX (hneA htxA (by decide))
  have hinX := ownsRow_keep hinA hmX (hneA hinA (by decide))
  have hPX := hP.keep hmX (fun h => by obtain ⟨tailA, htlA⟩ := id hpA; exact hP.ne_of_type htlA (by decide) h)
  have hTX := hT.keep hmX (fun h => by obtain ⟨tailA, htlA⟩ := id hpA; exact hT.ne_of_type htlA (by decide) h)
  have hownP := ownsRow_pop hownX rfl
  obtain ⟨d0, d1, d2, d3, df, dl⟩ := row_cells hownP
  clear k4 f4 hbl
  have k4 := hpX.stack
  have hbl := hpX.lt
  go_quiet (fail)
  go_wp2_with (at_builtin; refine ap_blk rfl (.tmp 106) (.tmp 108) rfl inner ni li rfl ((ownsRow_keep hinX ((Mods.refl (fun _ => False) X).drewN nq) (fun _ _ x => x)).alloc _) X.heap.size 1 _ (.pointer (some ⟨pk, 0, none⟩)) rfl ((Blk.newAt _ _ rfl).cell 0) (by omega) ?_)
  intro ig ic wB hinB hgrow hloc
  generalize hZ : ((X.drewN nq).alloc _ : World) = Z at *
  have hmZ : Same X Z := by subst hZ; exact ((Mods.refl _ X).drewN nq).alloc _
  clear hZ
  have hmB := grown_mods hgrow
  have hpB := (hpX.same hmZ).keep hmB (own_ne_ps (ownsRow_keep hinX hmZ (fun _ _ x => x)) (hpX.same hmZ) (by decide))
  have hinZ := ownsRow_keep hinX hmZ (fun _ _ x => x)
  have htxB := ownsRow_keep (ownsRow_keep htxX hmZ (fun _ _ x => x)) hmB (fun k hk => own_ne_row hinZ (ownsRow_keep htxX hmZ (fun _ _ x => x)) hk (by decide))
  have hownB := ownsRow_keep (ownsRow_keep hownP hmZ (fun _ _ x => x)) hmB (fun k hk => own_ne_row hinZ (ownsRow_keep hownP hmZ (fun _ _ x => x)) hk (by decide))
  have hPB' := (Same.blk hmZ hPX).keep hmB (own_ne hinZ (Same.blk hmZ hPX) (by decide))
  have hTB' := (Same.blk hmZ hTX).keep hmB (own_ne hinZ (Same.blk hmZ hTX) (by decide))
  obtain ⟨q0, q1, q2, q3, qf, ql⟩ := row_cells hownB
  have qf1 := qf (n * 4 + 1)
  clear qf df d0 d1 d2 d3
  go_wp2
  go_ret
  have hgbp : g ≠ bp := fun h => own_ne_ps hownB hpB (by decide) (by rw [h]; rfl)
  have hgpk : pk ≠ g := fun h => own_ne hownB hPB' (by decide) (by rw [h]; rfl)
  have hgtb : tb ≠ g := fun h => own_ne hownB hTB' (by decide) (by rw [h]; rfl)
  have hmF : Mods (fun k => k = g) wB (wB.setCell ⟨g, n * 4 + 1, none⟩ (.slice (some ⟨ig, 0, none⟩) (ni + 1) ic)) := (Mods.refl (fun k => k = g) wB).setCell (p := ⟨g, n * 4 + 1, none⟩) (fun _ => rfl) _
  have hlen : l.length = n * 4 := by have := hownB.1; simp at this; omega
  refine ⟨_, rfl, ?_, pk, tb, g2, cap2, ig, ic, rfl, ?_, ?_, hPB'.keep1 hmF hgpk, hTB'.keep1 hmF hgtb, hpB.set_other (a := ⟨g, n * 4 + 1, none⟩) hgbp _, ?_, row_in hlen rfl hownB, ?_⟩
  · have m1 : Mods (fun k => k = bp ∨ k = g ∨ p.texts.ownBlock = some k ∨ inner.ownBlock = some k) w wA := (hD.mono (fun _ _ h => absurd h (fun x => x))).then hPB.mods (fun _ _ h => h.elim Or.inl (fun h => Or.inr (Or.inr (Or.inl h))))
    have m2 := m1.then hmX (fun _ _ h => Or.inl h)
    have m3 := m2.then hmZ (fun _ _ h => absurd h (fun x => x))
    have m4 := m3.then hmB (fun _ _ h => Or.inr (Or.inr (Or.inr h)))
    exact m4.then hmF (fun _ _ h => Or.inr (Or.inl h))
  · have := hD.size; omega
  · have := hD.size; omega
  · exact ownsRow_keep htxB hmF (fun k hk he => own_ne_row htxB hownB (g := g) rfl (by decide) (by rw [← he]; exact hk))
  · exact ownsRow_keep hinB hmF (fun k hk he => own_ne_row hinB hownB (g := g) rfl (by decide) (by rw [← he]; exact hk))
end Go.Proofs.YtdnlfdppjfjncaaGreatDoor

/- The document is built and closed; the stack is trimmed to nothing. -/
namespace Go.Proofs.YtdnlfdppjfjncaaGreatDoor
open Go Go.RowKit Go.Proofs


theorem m_build_root0 (k : Nat) (a : Option Addr) (w : World) : (method (k + 1) 98 (.pointer a) "pub-paratext/pub/rscmarkdown.build").run Tryz.prog w = .ok (247, .pointer a) w := by kernel_rfl
theorem m_pos0 (k : Nat) (a : Addr) (w : World) : (method (k + 1) 116 (.pointer (some a)) "pub-paratext/pub/rscmarkdown.pos").run Tryz.prog w = .ok (260, .pointer (some a)) w := m_pos k a w
theorem as_ps_is (X : Nat) (v : Value) (w : World) : (Instr.typeAssert (.iface 116 v) X 116 false).run Tryz.prog w = .ok v w := by kernel_rfl
theorem as_doc_yes (X : Nat) (v : Value) (w : World) : (Instr.typeAssert (.iface 48 v) X 48 false).run Tryz.prog w = .ok v w := by kernel_rfl
theorem as_List_no1 (X : Nat) (v : Value) (w : World) : (Instr.typeAssert (.iface 48 v) X 111 true).run Tryz.prog w = .ok (.tuple #[.pointer none, .bool false]) w := as_List_no _ _ _ _ (by decide)

set_option maxHeartbeats 2000000 in
theorem rootBuild_any (bp g n cap : Nat) (p : PSt) (l : List Value) (c : Value) (a : Option Addr) (ni ic : Nat) (ml : Option Nat) (s e : Int) (q : Value) (w : World) (hp : PsAt w bp p) (hst : p.stack = .slice (some ⟨g, 0, none⟩) (n + 1) cap) (hn : n ≤ 1000)
    (hown : w.ownsRow 0 121 4 (.slice (some ⟨g, 0, none⟩) (n + 1) cap) (n + 1) (l ++ [c, .slice a ni ic, .int .i64 s, .int .i64 e])) (hl : p.links = .map ml) :
    Calls Tryz.prog 247 #[q, .iface 116 (.pointer (some ⟨bp, 0, none⟩))] w fun e' w' => ∃ rk, e' = .returned (.iface 48 (.pointer (some ⟨rk, 0, none⟩))) ∧ w.heap.size ≤ rk ∧ Same w w' ∧
      Blk w' rk #[.int .i64 s, .int .i64 e, .slice a ni ic, .map ml] 339 := by
  have HP : ∀ W, Same w W → Calls Tryz.prog 260 #[.pointer (some ⟨bp, 0, none⟩)] W fun e' W' => e' = .returned (.agg #[.int .i64 s, .int .i64 e]) ∧ Same w W' ∧ W'.cell? ⟨bp, 2, none⟩ = some (.map ml) := fun W hW =>
    (pos_any bp g n cap p l c (.slice a ni ic) s e W (hp.same hW) hst hn (ownsRow_keep hown hW (fun _ _ x => x))).mono fun _ _ h => ⟨h.1, hW.trans h.2, (hp.same (hW.trans h.2)).links.trans (by rw [hl])⟩
  have HB : ∀ W, Same w W → Calls Tryz.prog 259 #[.pointer (some ⟨bp, 0, none⟩)] W fun e' W' => e' = .returned (.slice a ni ic) ∧ Same w W' ∧ W'.cell? ⟨bp, 2, none⟩ = some (.map ml) := fun W hW =>
    (blocks_any bp g n cap p l c (.slice a ni ic) s e W (hp.same hW) hst hn (ownsRow_keep hown hW (fun _ _ x => x))).mono fun _ _ h => by
      obtain ⟨h1, k, hk⟩ := h
      subst hk
      exact ⟨h1, hW.drewN k, (hp.same (hW.drewN k)).links.trans (by rw [hl])⟩
  have HL := hp.links
  rw [hl] at HL
  have M1 := m_pos0
  have M2 := m_blocks
  have M3 := as_ps_is
  go_enter Tryz.func247, Tryz.ntmps247
  go_wp2_with fail
  have hS0 : Same w w := Mods.refl _ w
  go_region_with (first
    | (go_at_call 260; refine (HP _ (by repeat (first | assumption | apply Mods.drew | apply Mods.drewN | apply Mods.alloc))).mono ?_; rintro e1 w1 ⟨rfl, hS1, HL1⟩)
    | (go_at_call 259; refine (HB _ (by repeat (first | assumption | apply Mods.drew | apply Mods.drewN | apply Mods.alloc))).mono ?_; rintro e2 w2 ⟨rfl, hS2, HL2⟩))
  all_goals
    go_wp2
    go_ret
    exact ⟨_, rfl, hS2.size, hS2.alloc _, Blk.newAt _ _ rfl⟩

end Go.Proofs.YtdnlfdppjfjncaaGreatDoor

/- The document is closed; the stack is trimmed to nothing. -/
namespace Go.Proofs.YtdnlfdppjfjncaaGreatDoor
open Go Go.RowKit Go.Proofs

/-- What closing the document leaves. -/
structure RootClosed (w w' : World) (bp g n cap : Nat) (p : PSt) (l : List Value) (a : Option Addr) (ni ic : Nat) (ml : Option Nat) (s e : Int) : Prop where
  mods : Mods (fun k => k = bp) w w'
  ex : ∃ rk, w.heap.size ≤ rk ∧ Blk w' rk #[.int .i64 s, .int .i64 e, .slice a ni ic, .map ml] 339 ∧
    PsAt w' bp { p with stack := .slice (some ⟨g, 0, none⟩) 0 cap, root := .pointer (some ⟨rk, 0, none⟩) }

set_option maxRecDepth 100000 in
set_option maxHeartbeats 4000000 in
theorem closeRoot (bp g cap : Nat) (p : PSt) (v a : Option Addr) (ni ic : Nat) (ml : Option Nat) (s e : Int) (w : World) (hp : PsAt w bp p) (hst : p.stack = .slice (some ⟨g, 0, none⟩) 1 cap)
    (hown : w.ownsRow 0 121 4 (.slice (some ⟨g, 0, none⟩) 1 cap) 1 [.iface 98 (.pointer v), .slice a ni ic, .int .i64 s, .int .i64 e]) (hl : p.links = .map ml) :
    Calls Tryz.prog 73 #[.pointer (some ⟨bp, 0, none⟩)] w fun e' w' => ∃ u, e' = .returned u ∧ RootClosed w w' bp g 0 cap p [] a ni ic ml s e := by
  obtain ⟨c0, c1, c2, c3, cf, cl⟩ := row_cells (n := 0) (l := []) hown
  have k4 := hp.stack
  rw [hst] at k4
  have hbl := hp.lt
  have hE := eql_builder_nil
  have hM := m_build_root0
  have w1 : IntKind.i64.wrap (0 : Int) = 0 := rfl
  clear cf
  go_enter Tryz.func73, Tryz.ntmps73
  go_wp2_with fail
  go_quiet (fail)
  go_wp2_with fail
  have hD : Same w (w.drewN nq) := (Mods.refl _ w).drewN nq
  refine (rootBuild_any bp g 0 cap p [] _ a ni ic ml s e _ (w.drewN nq) (hp.same hD) hst (by omega) (ownsRow_keep hown hD (fun _ _ x => x)) hl).mono ?_
  rintro e' wA ⟨rk, rfl, hrk, hmA, hR⟩
  have hpA := hp.same (hD.trans hmA)
  have hsz := hD.size
  have hownA := ownsRow_keep hown (hD.trans hmA) (fun _ _ x => x)
  have hcap : 1 ≤ cap := by
    rcases hownA.2 with ⟨h, _⟩ | ⟨_, _, _, h, _, _, hc, _⟩
    · cases h
    · cases h; exact hc
  clear c0 c1 c2 c3 k4 hbl hE hM
  have k4 := hpA.stack
  have f4 := hpA.fr 4
  have f1 := hpA.fr 1
  have k1 := hpA.root
  have hbl := hpA.lt
  have hL := as_List_no1
  have hDoc := as_doc_yes
  have w5 : (0 : Int) ≤ (cap : Int) := by omega
  rw [hst] at k4
  go_wp2_with fail
  go_region
  go_wp2_with fail
  go_ret
  have hne : rk ≠ bp := by
    obtain ⟨tail, htl⟩ := id hpA
    exact hR.ne_of_type htl (by decide)
  have hm1 : Mods (fun k => k = bp) w wA := (hD.trans hmA).mono (fun _ _ h => absurd h (fun x => x))
  have h1 := PsAt.drew (hpA.set 4 (.slice (some ⟨g, 0, none⟩) 0 cap) { p with stack := .slice (some ⟨g, 0, none⟩) 0 cap } rfl (by decide))
  refine ⟨_, rfl, ?_, rk, by omega, ?_, h1.set 1 _ _ rfl (by decide)⟩
  · exact (((hm1.setCell (p := ⟨bp, 4, none⟩) (fun _ => rfl) _).drew).setCell (p := ⟨bp, 1, none⟩) (fun _ => rfl) _)
  · exact Blk.set_other (a := ⟨bp, 1, none⟩) (Blk.drew (Blk.set_other (a := ⟨bp, 4, none⟩) hR (Ne.symm hne) _)) (Ne.symm hne) _

set_option maxHeartbeats 2000000 in
/-- trimStack closes as many blocks as stand above the depth; P k: k blocks are still to be closed. -/
theorem trimStack_gen (bp d : Nat) (P : Nat → World → Prop) (_hd : d ≤ 1000)
    (h0 : ∀ k w, P k w → k ≤ 1000 ∧ ∃ a cap, w.cell? ⟨bp, 4, none⟩ = some (.slice a (d + k) cap))
    (hc : ∀ k w, P (k + 1) w → Calls Tryz.prog 73 #[.pointer (some ⟨bp, 0, none⟩)] w fun e w' => ∃ u, e = .returned u ∧ P k w')
    (n : Nat) (w : World) (hP : P n w) :
    Calls Tryz.prog 65 #[.pointer (some ⟨bp, 0, none⟩), .int .i64 d] w fun e w' => e = .returned (.tuple #[]) ∧ P 0 w' := by
  obtain ⟨hn, a, cap, k4⟩ := h0 n w hP
  have w1 : ¬ ((d : Int) + n < d) := by omega
  go_enter Tryz.func65, Tryz.ntmps65
  go_wp2_with fail
  go_loopg [] n (fun k wr => P k wr)
  case atStart => exact hP
  case round =>
    clear k4 w1
    obtain ⟨hn', a', cap', k4'⟩ := h0 _ _ hrel
    cases gk with
    | zero =>
      have w2 : ¬ ((d : Int) < d) := by omega
      rw [Nat.add_zero] at k4'
      clear h0 hc
      go_wp2_with fail
      go_end0
      exact ⟨rfl, hrel⟩
    | succ k =>
      have w2 : (d : Int) < d + (k + 1) := by omega
      have hc' := hc k _ hrel
      clear h0 hc
      go_wp2_with fail
      refine hc'.mono ?_
      rintro e w2 ⟨u, rfl, hP2⟩
      go_wp2_with fail
      go_roundg k
      case measure => omega
      case rel => exact hP2
end Go.Proofs.YtdnlfdppjfjncaaGreatDoor
