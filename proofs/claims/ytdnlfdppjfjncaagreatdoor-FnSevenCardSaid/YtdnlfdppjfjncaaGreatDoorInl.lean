/- emit, skip, parseEscape: the pieces of a line. -/
import Derived.Test.YtdnlfdppjfjncaaGreatDoorSearch
import Derived.Deep.RegionLaw
namespace Go.Proofs.YtdnlfdppjfjncaaGreatDoor
open Go Go.RowKit Go.Proofs

theorem st1 {P : Program} {w : World} {ops : Array Oper} {o : Oper} {a : Act} {K : Act → World → Prop} {Q : Exit → Act → World → Prop} {E : Prop} (hgd : o.guard = none) (s x : Operand) (t e size bytes : Nat)
    (ho : o.op = .call { callee := .builtin .append, args := #[s, x], argTypes := #[t, t] }) (z : Value)
    (ht : P.underlying t = some (.slice e)) (hi : (P.info? e).map (fun i => (i.zero, i.size, i.bytes)) = some (some z, size, bytes)) (hzs : z.cells.size = size) (hsz : 0 < size) (hby : bytes ≤ 100)
    (v : Value) (n : Nat) (xs : List Value) (hs : a.eval s = v) (hown : w.ownsRow 0 e size v n xs)
    (b c : Nat) (news : List Value) (hx : a.eval x = .slice (some ⟨b, 0, none⟩) 1 c) (hl : news.length = size) (hnews : ∀ j u, news[j]? = some u → w.cell? ⟨b, j, none⟩ = some u)
    (h1 : ∀ u ∈ news, u.oneCell' = true) (hn : n ≤ 1000000)
    (h : ∀ g cap w', w'.ownsRow 0 e size (.slice (some ⟨g, 0, none⟩) (n + 1) cap) (n + 1) (xs ++ news) → w.grownBy w' v.ownBlock → (v.ownBlock = some g ∨ g = w.heap.size) → K (a.put o.dst (.slice (some ⟨g, 0, none⟩) (n + 1) cap)) w') :
    if Region.wanted o (yielded ops a.tmps) = true then Oper.wp P o a w K Q else E := by
  obtain ⟨i0, hi0, hz⟩ := Option.map_eq_some_iff.1 hi
  simp only [Prod.mk.injEq] at hz
  obtain ⟨hz0, hz1, hz2⟩ := hz
  refine step_append_lies w hgd s x t ho 0 e i0 z size bytes ht hi0 hz0 hz1 hz2 hzs hsz v n xs hs hown ⟨b, 0, none⟩ 1 c news hx (by omega) ?_ h1 (by omega) (by unfold maxLen; omega) ?_ (Nat.zero_le _) _ rfl (fun g cap w' h2 h3 h4 _ => h g cap w' h2 h3 h4)
  · intro j u hu
    have := hnews j u hu
    simpa [Addr.add_lit] using this
  · have : (n + 1) * bytes ≤ 1000001 * 100 := Nat.mul_le_mul (by omega) hby
    omega

theorem st_inl {w : World} {ops : Array Oper} {o : Oper} {a : Act} {K : Act → World → Prop} {Q : Exit → Act → World → Prop} {E : Prop} (hgd : o.guard = none) (s x : Operand) (ho : o.op = .call { callee := .builtin .append, args := #[s, x], argTypes := #[88, 88] })
    (v : Value) (n : Nat) (xs : List Value) (hs : a.eval s = v) (hown : w.ownsRow 0 132 1 v n xs)
    (b c T : Nat) (u : Value) (hx : a.eval x = .slice (some ⟨b, 0, none⟩) 1 c) (hu : w.cell? ⟨b, 0, none⟩ = some (.iface T u)) (hn : n ≤ 1000000)
    (h : ∀ g cap w', w'.ownsRow 0 132 1 (.slice (some ⟨g, 0, none⟩) (n + 1) cap) (n + 1) (xs ++ [.iface T u]) → w.grownBy w' v.ownBlock → (v.ownBlock = some g ∨ g = w.heap.size) → K (a.put o.dst (.slice (some ⟨g, 0, none⟩) (n + 1) cap)) w') :
    if Region.wanted o (yielded ops a.tmps) = true then Oper.wp Tryz.prog o a w K Q else E :=
  st1 hgd s x 88 132 1 16 ho .nilIface Tryz.underlying88 (by kernel_rfl) rfl (by decide) (by decide) v n xs hs hown b c [.iface T u] hx rfl
    (fun j y hy => by cases j with
      | zero => simp at hy; subst hy; exact hu
      | succ j => simp at hy) (fun y hy => by simp at hy; subst hy; rfl) hn h

/-- What emit leaves where there is something to emit. -/
structure Emitted (w w' : World) (bp : Nat) (p : PSt) (n : Nat) (xs : List Value) (i : Nat) (s : ByteArray) : Prop where
  mods : Mods (fun k => k = bp ∨ p.list.ownBlock = some k) w w'
  ex : ∃ g cap b, PsAt w' bp { p with list := .slice (some ⟨g, 0, none⟩) (n + 1) cap, emitted := i } ∧
    w'.ownsRow 0 132 1 (.slice (some ⟨g, 0, none⟩) (n + 1) cap) (n + 1) (xs ++ [.iface 156 (.pointer (some ⟨b, 0, none⟩))]) ∧
    Blk w' b #[.string s] 137 ∧ w.heap.size ≤ b ∧ (p.list.ownBlock = some g ∨ w.heap.size ≤ g)

theorem emit_none (bp : Nat) (p : PSt) (e i : Int) (w : World) (hp : PsAt w bp p) (he : p.emitted = e) (hi : ¬ e < i) :
    Calls Tryz.prog 87 #[.pointer (some ⟨bp, 0, none⟩), .int .i64 i] w fun e' w' => e' = .returned (.tuple #[]) ∧ w = w' := by
  have k8 := hp.emitted
  rw [he] at k8
  go_enter Tryz.func87, Tryz.ntmps87
  go_wp2
  go_end0
  exact ⟨rfl, rfl⟩

theorem skip_any (bp : Nat) (p : PSt) (i : Int) (w : World) (hp : PsAt w bp p) :
    Calls Tryz.prog 88 #[.pointer (some ⟨bp, 0, none⟩), .int .i64 i] w fun e' w' => e' = .returned (.tuple #[]) ∧ Mods (fun k => k = bp) w w' ∧ PsAt w' bp { p with emitted := i } := by
  have k8 := hp.emitted
  have f8 := hp.fr 8
  have hl := hp.lt
  go_enter Tryz.func88, Tryz.ntmps88
  go_wp2
  go_end0
  exact ⟨rfl, (Mods.refl (fun k => k = bp) w).setCell (p := ⟨bp, 8, none⟩) (fun _ => rfl) _, hp.set 8 _ _ rfl (by decide)⟩

theorem emit_facts (bp n : Nat) (p : PSt) (xs : List Value) (v : Value) (cs : Array Value) (w w1 : World) {o : Obj} (hp : PsAt w bp p) (hL : p.list = v) (hown : w.ownsRow 0 132 1 v n xs)
    (hgrow : (((w.alloc (.cells cs 137)).alloc o).drew).grownBy w1 v.ownBlock) :
    PsAt w1 bp p ∧ Mods (fun k => k = bp ∨ v.ownBlock = some k) w w1 ∧ Blk w1 w.heap.size cs 137 ∧
      w1.cell? ⟨bp, 9, none⟩ = some v ∧ w1.cell? ⟨bp, 8, none⟩ = some (.int .i64 p.emitted) ∧ w1.frozen? ⟨bp, 9, none⟩ = false ∧ w1.frozen? ⟨bp, 8, none⟩ = false ∧ bp < w1.heap.size := by
  have hS : Same w (((w.alloc (.cells cs 137)).alloc o).drew) := (((Mods.refl (fun _ => False) w).alloc _).alloc o).drew
  have hnb : v.ownBlock ≠ some bp := fun h => own_ne_ps hown hp (by decide) h
  have hmA := grown_mods hgrow
  have hp1 := (hp.same hS).keep hmA hnb
  refine ⟨hp1, ?_, ?_, by rw [hp1.list, hL], hp1.emitted, hp1.fr 9, hp1.fr 8, hp1.lt⟩
  · exact (hS.mono (S' := fun k => k = bp ∨ v.ownBlock = some k) (fun _ _ h => absurd h (fun x => x))).then hmA (fun _ _ h => Or.inr h)
  · refine (Blk.drew (Blk.alloc (Blk.newAt (w := w) (n := w.heap.size) cs 137 rfl) o)).keep hmA (fun h => ?_)
    have := (hown.lt _ h).2
    omega

theorem Emitted.mk' {w w1 : World} {bp n g cap i : Nat} {p : PSt} {xs : List Value} {v : Value} {s : ByteArray} (hL : p.list = v) (hp1 : PsAt w1 bp p) (hm1 : Mods (fun k => k = bp ∨ v.ownBlock = some k) w w1) (hT : Blk w1 w.heap.size #[.string s] 137)
    (hown1 : w1.ownsRow 0 132 1 (.slice (some ⟨g, 0, none⟩) (n + 1) cap) (n + 1) (xs ++ [.iface 156 (.pointer (some ⟨w.heap.size, 0, none⟩))])) (hloc : v.ownBlock = some g ∨ w.heap.size ≤ g) :
    Emitted w ((w1.setCell ⟨bp, 9, none⟩ (.slice (some ⟨g, 0, none⟩) (n + 1) cap)).setCell ⟨bp, 8, none⟩ (.int .i64 i)) bp p n xs i s := by
  have hm2 : Mods (fun k => k = bp) w1 ((w1.setCell ⟨bp, 9, none⟩ (.slice (some ⟨g, 0, none⟩) (n + 1) cap)).setCell ⟨bp, 8, none⟩ (.int .i64 i)) :=
    ((Mods.refl (fun k => k = bp) w1).setCell (p := ⟨bp, 9, none⟩) (fun _ => rfl) _).setCell (p := ⟨bp, 8, none⟩) (fun _ => rfl) _
  have hne : w.heap.size ≠ bp := by
    obtain ⟨tail, htl⟩ := id hp1
    exact hT.ne_of_type htl (by decide)
  refine ⟨?_, g, cap, w.heap.size, ?_, ?_, hT.keep1 hm2 hne, Nat.le_refl _, by rw [hL]; exact hloc⟩
  · rw [hL]
    exact hm1.then hm2 (fun _ _ h => Or.inl h)
  · exact (hp1.set 9 _ { p with list := .slice (some ⟨g, 0, none⟩) (n + 1) cap } rfl (by decide)).set 8 _ _ rfl (by decide)
  · exact ownsRow_keep hown1 hm2 (fun k hk he => own_ne_ps hown1 hp1 (by decide) (by rw [← he]; exact hk))

set_option maxHeartbeats 4000000 in
theorem emit_some (bp n : Nat) (p : PSt) (xs : List Value) (e i : Nat) (w : World) (hp : PsAt w bp p) (he : p.emitted = e) (hi : e < i) (hs : i ≤ p.s.size) (_hs6 : p.s.size ≤ 1000000)
    (hown : w.ownsRow 0 132 1 p.list n xs) (hn : n ≤ 1000000) :
    Calls Tryz.prog 87 #[.pointer (some ⟨bp, 0, none⟩), .int .i64 i] w fun e' w' => e' = .returned (.tuple #[]) ∧ Emitted w w' bp p n xs i (p.s.extract e i) := by
  have k8 := hp.emitted
  have k7 := hp.s
  have k9 := hp.list
  have f8 := hp.fr 8
  have f9 := hp.fr 9
  have hbl := hp.lt
  rw [he] at k8
  have w1 : (e : Int) < i := by omega
  have w2 : (0 : Int) ≤ e := by omega
  have w3 : (e : Int) ≤ i := by omega
  have w4 : (i : Int) ≤ p.s.size := by omega
  generalize hL : p.list = v at *
  go_enter Tryz.func87, Tryz.ntmps87
  go_wp2_with fail
  have hS : ∀ o o', Same w (((w.alloc o).alloc o').drew) := fun o o' => (((Mods.refl (fun _ => False) w).alloc o).alloc o').drew
  go_region_law (refine st_inl rfl (.tmp 14) (.tmp 28) rfl v n xs rfl (ownsRow_keep hown (hS _ _) (fun _ _ x => x)) (w.heap.size + 1) 1 156 _ rfl ((Blk.drew (Blk.newAt (n := w.heap.size + 1) _ _ (by simp))).cell 0) hn ?_; intro g cap w1 hown1 hgrow hloc; obtain ⟨hp1, hm1, hT, k9', k8', f9', f8', hbl'⟩ := emit_facts bp n p xs v _ w _ hp hL hown hgrow; clear hgrow; have hl2 := hloc.imp (fun h => h) (fun h => Nat.le_trans (hS _ _).size (Nat.le_of_eq h.symm)); clear hloc)
  all_goals go_wp2_with fail
  all_goals go_end0
  all_goals exact ⟨rfl, Emitted.mk' hL hp1 hm1 hT hown1 hl2⟩
end Go.Proofs.YtdnlfdppjfjncaaGreatDoor
