/- append of one element, type by type. -/
import Derived.Test.YtdnlfdppjfjncaaGreatDoorState3
import Derived.Deep.AppendLies
namespace Go.Proofs.YtdnlfdppjfjncaaGreatDoor
open Go Go.RowKit Go.Proofs

theorem ap1 {P : Program} {w : World} {ops : Array Oper} {rest : List Oper} {o : Oper} {a : Act} {Q : Exit → Act → World → Prop} (hgd : o.guard = none) (s x : Operand) (t e size bytes : Nat)
    (ho : o.op = .call { callee := .builtin .append, args := #[s, x], argTypes := #[t, t] }) (z : Value)
    (ht : P.underlying t = some (.slice e)) (hi : (P.info? e).map (fun i => (i.zero, i.size, i.bytes)) = some (some z, size, bytes)) (hzs : z.cells.size = size) (hsz : 0 < size) (hby : bytes ≤ 100)
    (v : Value) (n : Nat) (xs : List Value) (hs : a.eval s = v) (hown : w.ownsRow 0 e size v n xs)
    (b c : Nat) (news : List Value) (hx : a.eval x = .slice (some ⟨b, 0, none⟩) 1 c) (hl : news.length = size) (hnews : ∀ j u, news[j]? = some u → w.cell? ⟨b, j, none⟩ = some u)
    (h1 : ∀ u ∈ news, u.oneCell' = true) (hn : n ≤ 1000000)
    (h : ∀ g cap w', w'.ownsRow 0 e size (.slice (some ⟨g, 0, none⟩) (n + 1) cap) (n + 1) (xs ++ news) → w.grownBy w' v.ownBlock → (v.ownBlock = some g ∨ g = w.heap.size) → wpList P ops Q rest (a.put o.dst (.slice (some ⟨g, 0, none⟩) (n + 1) cap)) w') : wpList P ops Q (o :: rest) a w := by
  obtain ⟨i0, hi0, hz⟩ := Option.map_eq_some_iff.1 hi
  simp only [Prod.mk.injEq] at hz
  obtain ⟨hz0, hz1, hz2⟩ := hz
  refine wpList_append_lies w hgd s x t ho 0 e i0 z size bytes ht hi0 hz0 hz1 hz2 hzs hsz v n xs hs hown ⟨b, 0, none⟩ 1 c news hx (by omega) ?_ h1 (by omega) (by unfold maxLen; omega) ?_ (Nat.zero_le _) _ rfl (fun g cap w' h2 h3 h4 _ => h g cap w' h2 h3 h4)
  · intro j u hu
    have := hnews j u hu
    simpa [Addr.add_lit] using this
  · have : (n + 1) * bytes ≤ 1000001 * 100 := Nat.mul_le_mul (by omega) hby
    omega

/-- What may have been written by an append onto v. -/
theorem grown_mods {w w' : World} {v : Value} (h : w.grownBy w' v.ownBlock) : Mods (fun k => v.ownBlock = some k) w w' :=
  ⟨h.os, h.tape, h.output, h.size, fun k hk hn => h.block k hk (fun e => hn e.symm)⟩

section
variable {w : World} {ops : Array Oper} {rest : List Oper} {o : Oper} {a : Act} {Q : Exit → Act → World → Prop}

theorem ap_ob (hgd : o.guard = none) (s x : Operand) (ho : o.op = .call { callee := .builtin .append, args := #[s, x], argTypes := #[87, 87] })
    (v : Value) (n : Nat) (xs : List Value) (hs : a.eval s = v) (hown : w.ownsRow 0 121 4 v n xs)
    (b c : Nat) (news : List Value) (hx : a.eval x = .slice (some ⟨b, 0, none⟩) 1 c) (hl : news.length = 4) (hnews : ∀ j u, news[j]? = some u → w.cell? ⟨b, j, none⟩ = some u)
    (h1 : ∀ u ∈ news, u.oneCell' = true) (hn : n ≤ 1000000)
    (h : ∀ g cap w', w'.ownsRow 0 121 4 (.slice (some ⟨g, 0, none⟩) (n + 1) cap) (n + 1) (xs ++ news) → w.grownBy w' v.ownBlock → (v.ownBlock = some g ∨ g = w.heap.size) → wpList Tryz.prog ops Q rest (a.put o.dst (.slice (some ⟨g, 0, none⟩) (n + 1) cap)) w') : wpList Tryz.prog ops Q (o :: rest) a w :=
  ap1 hgd s x 87 121 4 56 ho (.agg #[.nilIface, .slice none 0 0, .int .i64 0, .int .i64 0]) Tryz.underlying87 (by kernel_rfl) rfl (by decide) (by decide) v n xs hs hown b c news hx hl hnews h1 hn h

theorem ap_str (hgd : o.guard = none) (s x : Operand) (ho : o.op = .call { callee := .builtin .append, args := #[s, x], argTypes := #[36, 36] })
    (v : Value) (n : Nat) (xs : List Value) (hs : a.eval s = v) (hown : w.ownsRow 0 9 1 v n xs)
    (b c : Nat) (u : ByteArray) (hx : a.eval x = .slice (some ⟨b, 0, none⟩) 1 c) (hu : w.cell? ⟨b, 0, none⟩ = some (.string u)) (hn : n ≤ 1000000)
    (h : ∀ g cap w', w'.ownsRow 0 9 1 (.slice (some ⟨g, 0, none⟩) (n + 1) cap) (n + 1) (xs ++ [.string u]) → w.grownBy w' v.ownBlock → (v.ownBlock = some g ∨ g = w.heap.size) → wpList Tryz.prog ops Q rest (a.put o.dst (.slice (some ⟨g, 0, none⟩) (n + 1) cap)) w') : wpList Tryz.prog ops Q (o :: rest) a w :=
  ap1 hgd s x 36 9 1 16 ho (.string ⟨#[]⟩) Tryz.underlying36 (by kernel_rfl) rfl (by decide) (by decide) v n xs hs hown b c [.string u] hx rfl
    (fun j y hy => by cases j with
      | zero => simp at hy; subst hy; exact hu
      | succ j => simp at hy) (fun y hy => by simp at hy; subst hy; rfl) hn h

theorem ap_blk (hgd : o.guard = none) (s x : Operand) (ho : o.op = .call { callee := .builtin .append, args := #[s, x], argTypes := #[119, 119] })
    (v : Value) (n : Nat) (xs : List Value) (hs : a.eval s = v) (hown : w.ownsRow 0 68 1 v n xs)
    (b c T : Nat) (u : Value) (hx : a.eval x = .slice (some ⟨b, 0, none⟩) 1 c) (hu : w.cell? ⟨b, 0, none⟩ = some (.iface T u)) (hn : n ≤ 1000000)
    (h : ∀ g cap w', w'.ownsRow 0 68 1 (.slice (some ⟨g, 0, none⟩) (n + 1) cap) (n + 1) (xs ++ [.iface T u]) → w.grownBy w' v.ownBlock → (v.ownBlock = some g ∨ g = w.heap.size) → wpList Tryz.prog ops Q rest (a.put o.dst (.slice (some ⟨g, 0, none⟩) (n + 1) cap)) w') : wpList Tryz.prog ops Q (o :: rest) a w :=
  ap1 hgd s x 119 68 1 16 ho .nilIface Tryz.underlying119 (by kernel_rfl) rfl (by decide) (by decide) v n xs hs hown b c [.iface T u] hx rfl
    (fun j y hy => by cases j with
      | zero => simp at hy; subst hy; exact hu
      | succ j => simp at hy) (fun y hy => by simp at hy; subst hy; rfl) hn h

theorem ap_inl (hgd : o.guard = none) (s x : Operand) (ho : o.op = .call { callee := .builtin .append, args := #[s, x], argTypes := #[88, 88] })
    (v : Value) (n : Nat) (xs : List Value) (hs : a.eval s = v) (hown : w.ownsRow 0 132 1 v n xs)
    (b c T : Nat) (u : Value) (hx : a.eval x = .slice (some ⟨b, 0, none⟩) 1 c) (hu : w.cell? ⟨b, 0, none⟩ = some (.iface T u)) (hn : n ≤ 1000000)
    (h : ∀ g cap w', w'.ownsRow 0 132 1 (.slice (some ⟨g, 0, none⟩) (n + 1) cap) (n + 1) (xs ++ [.iface T u]) → w.grownBy w' v.ownBlock → (v.ownBlock = some g ∨ g = w.heap.size) → wpList Tryz.prog ops Q rest (a.put o.dst (.slice (some ⟨g, 0, none⟩) (n + 1) cap)) w') : wpList Tryz.prog ops Q (o :: rest) a w :=
  ap1 hgd s x 88 132 1 16 ho .nilIface Tryz.underlying88 (by kernel_rfl) rfl (by decide) (by decide) v n xs hs hown b c [.iface T u] hx rfl
    (fun j y hy => by cases j with
      | zero => simp at hy; subst hy; exact hu
      | succ j => simp at hy) (fun y hy => by simp at hy; subst hy; rfl) hn h

theorem ap_txt (hgd : o.guard = none) (s x : Operand) (ho : o.op = .call { callee := .builtin .append, args := #[s, x], argTypes := #[90, 90] })
    (v : Value) (n : Nat) (xs : List Value) (hs : a.eval s = v) (hown : w.ownsRow 0 105 1 v n xs)
    (b c : Nat) (u : Option Addr) (hx : a.eval x = .slice (some ⟨b, 0, none⟩) 1 c) (hu : w.cell? ⟨b, 0, none⟩ = some (.pointer u)) (hn : n ≤ 1000000)
    (h : ∀ g cap w', w'.ownsRow 0 105 1 (.slice (some ⟨g, 0, none⟩) (n + 1) cap) (n + 1) (xs ++ [.pointer u]) → w.grownBy w' v.ownBlock → (v.ownBlock = some g ∨ g = w.heap.size) → wpList Tryz.prog ops Q rest (a.put o.dst (.slice (some ⟨g, 0, none⟩) (n + 1) cap)) w') : wpList Tryz.prog ops Q (o :: rest) a w :=
  ap1 hgd s x 90 105 1 8 ho (.pointer none) Tryz.underlying90 (by kernel_rfl) rfl (by decide) (by decide) v n xs hs hown b c [.pointer u] hx rfl
    (fun j y hy => by cases j with
      | zero => simp at hy; subst hy; exact hu
      | succ j => simp at hy) (fun y hy => by simp at hy; subst hy; rfl) hn h
end
end Go.Proofs.YtdnlfdppjfjncaaGreatDoor
