/- toPlain, mergePlain1 of one piece, mergePlain and autoLinkText where they change nothing. -/
import Derived.Test.YtdnlfdppjfjncaaGreatDoorInline
namespace Go.Proofs.YtdnlfdppjfjncaaGreatDoor
open Go Go.RowKit Go.Proofs

/-- An append within the capacity that writes what is there already changes nothing. -/
theorem run_same {P : Program} {w : World} (t ty e : Nat) (ht : P.underlying t = some (.slice e)) (hi : (P.info? e).map (fun i => i.size) = some 1)
    (g i n cap : Nat) (xs : List Value) (hown : w.ownsRow 0 e 1 (.slice (some ⟨g, 0, none⟩) n cap) n xs) (hin : i < n) (u : Value) (hu : xs[i]? = some u) (h1 : u.oneCell' = true) (b c : Nat) (hb : w.cell? ⟨b, 0, none⟩ = some u) :
    ∃ w', (Builtin.append_ #[t, t] ty #[.slice (some ⟨g, 0, none⟩) i cap, .slice (some ⟨b, 0, none⟩) 1 c]).run P w = .ok (.slice (some ⟨g, 0, none⟩) (i + 1) cap) w' ∧ Same w w' := by
  obtain ⟨i0, hi0, hsz⟩ := Option.map_eq_some_iff.1 hi
  rcases hown.2 with ⟨h, _⟩ | ⟨g', cap', cur, hv, _, hg, hc, hm, hs, htake⟩
  · cases h
  · cases hv
    have hlen := hown.1
    simp only [Nat.mul_one] at hs htake hlen
    have hr := run_append_room (P := P) w t ty e i0 ht hi0 g i cap cur hg ⟨b, 0, none⟩ 1 c [u] (by rw [hsz]; rfl)
      (fun j y hy => by cases j with
        | zero => simp at hy; subst hy; simpa [Addr.add_lit] using hb
        | succ j => simp at hy) (fun y hy => by simp at hy; subst hy; exact h1) (by omega) (by rw [hsz]; simp; omega)
    refine ⟨_, hr, ?_⟩
    have hcu : cur.toList[i]? = some u := by
      rw [← hu, ← htake, List.getElem?_take_of_lt hin]
    have hcur : (cur.toList.take (i * i0.size) ++ [u] ++ cur.toList.drop (i * i0.size + [u].length)).toArray = cur := by
      rw [hsz, Nat.mul_one]
      have : cur.toList.take i ++ [u] ++ cur.toList.drop (i + 1) = cur.toList := by
        apply List.ext_getElem?
        intro j
        have hle : i ≤ cur.toList.length := by simp; omega
        rcases Nat.lt_trichotomy j i with h | h | h
        · rw [List.getElem?_append_left (by simp; omega), List.getElem?_append_left (by simp; omega), List.getElem?_take_of_lt h]
        · subst h
          rw [List.getElem?_append_left (by simp; omega), List.getElem?_append_right (by simp; omega), hcu]
          have hml : min j cur.toList.length = j := Nat.min_eq_left hle
          simp only [List.length_take, hml, Nat.sub_self]
          rfl
        · rw [List.getElem?_append_right (by simp; omega)]
          simp only [List.length_append, List.length_take, List.length_singleton, List.getElem?_drop]
          have hml : min i cur.toList.length = i := Nat.min_eq_left hle
          rw [hml]
          congr 1
          omega
      simp only [List.length_singleton]
      rw [this]
    rw [hcur]
    refine ⟨rfl, rfl, rfl, by simp, fun k _ _ => ?_⟩
    by_cases hk : k = g
    · subst hk
      rw [setRow_heap w k cur cur e _ hg, hg]
    · exact setRow_other w g k cur hk

section
variable {w : World} {ops : Array Oper} {rest : List Oper} {o : Oper} {a : Act} {Q : Exit → Act → World → Prop}

theorem wp_same_inl {K : Act → World → Prop} (s x : Operand) (ho : o.op = .call { callee := .builtin .append, args := #[s, x], argTypes := #[88, 88] })
    (g i n cap : Nat) (xs : List Value) (hown : w.ownsRow 0 132 1 (.slice (some ⟨g, 0, none⟩) n cap) n xs) (hin : i < n) (u : Value) (hu : xs[i]? = some u) (h1 : u.oneCell' = true) (b c : Nat)
    (hs : a.eval s = .slice (some ⟨g, 0, none⟩) i cap) (hx : a.eval x = .slice (some ⟨b, 0, none⟩) 1 c) (hb : w.cell? ⟨b, 0, none⟩ = some u)
    (h : ∀ w', Same w w' → K (a.put o.dst (.slice (some ⟨g, 0, none⟩) (i + 1) cap)) w') : o.wp Tryz.prog a w K Q := by
  obtain ⟨w', hr, hm⟩ := run_same (P := Tryz.prog) 88 o.type 132 Tryz.underlying88 (by kernel_rfl) g i n cap xs hown hin u hu h1 b c hb
  unfold Oper.wp execOp
  simp only [ho, resolve, invoke, builtin, Sem.run_bind, Sem.run_pure, Result.andThen_ok, List.map_toArray, List.map_cons, List.map_nil, hs, hx, hr]
  exact h w' hm

theorem wl_same_inl (hgd : o.guard = none) (s x : Operand) (ho : o.op = .call { callee := .builtin .append, args := #[s, x], argTypes := #[88, 88] })
    (g i n cap : Nat) (xs : List Value) (hown : w.ownsRow 0 132 1 (.slice (some ⟨g, 0, none⟩) n cap) n xs) (hin : i < n) (u : Value) (hu : xs[i]? = some u) (h1 : u.oneCell' = true) (b c : Nat)
    (hs : a.eval s = .slice (some ⟨g, 0, none⟩) i cap) (hx : a.eval x = .slice (some ⟨b, 0, none⟩) 1 c) (hb : w.cell? ⟨b, 0, none⟩ = some u)
    (h : ∀ w', Same w w' → wpList Tryz.prog ops Q rest (a.put o.dst (.slice (some ⟨g, 0, none⟩) (i + 1) cap)) w') : wpList Tryz.prog ops Q (o :: rest) a w :=
  wpList_plain hgd fun _ hK => wp_same_inl s x ho g i n cap xs hown hin u hu h1 b c hs hx hb fun w' hm => hK _ _ (h w' hm)

theorem st_same_inl {K : Act → World → Prop} {E : Prop} (hgd : o.guard = none) (s x : Operand) (ho : o.op = .call { callee := .builtin .append, args := #[s, x], argTypes := #[88, 88] })
    (g i n cap : Nat) (xs : List Value) (hown : w.ownsRow 0 132 1 (.slice (some ⟨g, 0, none⟩) n cap) n xs) (hin : i < n) (u : Value) (hu : xs[i]? = some u) (h1 : u.oneCell' = true) (b c : Nat)
    (hs : a.eval s = .slice (some ⟨g, 0, none⟩) i cap) (hx : a.eval x = .slice (some ⟨b, 0, none⟩) 1 c) (hb : w.cell? ⟨b, 0, none⟩ = some u)
    (h : ∀ w', Same w w' → K (a.put o.dst (.slice (some ⟨g, 0, none⟩) (i + 1) cap)) w') : if Region.wanted o (yielded ops a.tmps) = true then Oper.wp Tryz.prog o a w K Q else E := by
  have hw : Region.wanted o (yielded ops a.tmps) = true := by simp [Region.wanted, hgd]
  rw [if_pos hw]
  exact wp_same_inl s x ho g i n cap xs hown hin u hu h1 b c hs hx hb h
end

theorem as_plain_yes (X : Nat) (v : Value) (w : World) : (Instr.typeAssert (.iface 156 v) X 156 true).run Tryz.prog w = .ok (.tuple #[v, .bool true]) w := by kernel_rfl
theorem as_plain_no (X : Nat) (v : Value) (w : World) : (Instr.typeAssert (.iface 176 v) X 156 true).run Tryz.prog w = .ok (.tuple #[.pointer none, .bool false]) w :=
  as_ptr_no _ 156 137 (by kernel_rfl) (fun _ => by kernel_rfl) X v w (by decide)
theorem as_emphPlain_no (X : Nat) (v : Value) (w : World) : (Instr.typeAssert (.iface 176 v) X 190 true).run Tryz.prog w = .ok (.tuple #[.pointer none, .bool false]) w :=
  as_ptr_no _ 190 192 (by kernel_rfl) (fun _ => by kernel_rfl) X v w (by decide)
theorem as_emphPlain_no2 (X : Nat) (v : Value) (w : World) : (Instr.typeAssert (.iface 156 v) X 190 true).run Tryz.prog w = .ok (.tuple #[.pointer none, .bool false]) w :=
  as_ptr_no _ 190 192 (by kernel_rfl) (fun _ => by kernel_rfl) X v w (by decide)
theorem as_openPlain_no2 (X : Nat) (v : Value) (w : World) : (Instr.typeAssert (.iface 156 v) X 134 true).run Tryz.prog w = .ok (.tuple #[.pointer none, .bool false]) w :=
  as_ptr_no _ 134 139 (by kernel_rfl) (fun _ => by kernel_rfl) X v w (by decide)

theorem toPlain_plain (a : Option Addr) (w : World) : Calls Tryz.prog 131 #[.iface 156 (.pointer a)] w fun e w' => e = .returned (.pointer a) ∧ w = w' := by
  have h := as_plain_yes
  go_enter Tryz.func131, Tryz.ntmps131
  go_wp2_with fail
  try rw [Exit.noGoto_ret]
  go_ret
  exact ⟨rfl, rfl⟩

theorem toPlain_esc (a : Option Addr) (w : World) : Calls Tryz.prog 131 #[.iface 176 (.pointer a)] w fun e w' => e = .returned (.pointer none) ∧ w = w' := by
  have h1 := as_plain_no
  have h2 := as_emphPlain_no
  have h3 := as_openPlain_no
  go_enter Tryz.func131, Tryz.ntmps131
  go_wp2_with fail
  try rw [Exit.noGoto_ret]
  go_ret
  exact ⟨rfl, rfl⟩

theorem mergePlain1_one (g i cap : Nat) (a : Option Addr) (w : World) (h : w.cell? ⟨g, i, none⟩ = some (.iface 156 (.pointer a))) :
    Calls Tryz.prog 132 #[.slice (some ⟨g, i, none⟩) 1 cap] w fun e w' => e = .returned (.pointer a) ∧ w = w' := by
  go_enter Tryz.func132, Tryz.ntmps132
  go_wp2_with fail
  refine (toPlain_plain a w).mono ?_
  rintro e w' ⟨rfl, rfl⟩
  go_wp2_with fail
  go_ret
  exact ⟨rfl, rfl⟩

theorem autoLinkText_off (bp : Nat) (p : PSt) (v : Value) (w : World) (hp : PsAt w bp p) (hO : Opt w p 3 false) :
    Calls Tryz.prog 93 #[.pointer (some ⟨bp, 0, none⟩), v] w fun e w' => e = .returned v ∧ w = w' := by
  have k0 := hp.parser
  have kO := hO.cell
  go_enter Tryz.func93, Tryz.ntmps93
  go_wp2_with fail
  go_ret
  exact ⟨rfl, rfl⟩
end Go.Proofs.YtdnlfdppjfjncaaGreatDoor
