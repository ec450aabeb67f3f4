/- Some texts of one proof, put into one file: Search, Inl, Esc, Inline, Merge, Merge2, Emph, Inline2. -/
import Derived.Deep.RegionLaw
import Derived.Deep.LoopGhost
import Derived.Deep.RegionWith
import Derived.Test.YtdnlfdppjfjncaaGreatDoorSt2
/- zzIndex, zzContains for one byte; strings.Join of one string. -/
namespace Go.Proofs.YtdnlfdppjfjncaaGreatDoor
open Go Go.RowKit Go.Proofs

/-- The first place from i on where c stands; the length when there is none. -/
def fst1 (s : ByteArray) (c : UInt8) (i : Nat) : Nat := if h : i < s.size then (if s[i] = c then i else fst1 s c (i + 1)) else s.size
termination_by s.size - i

/-- The answer of zzIndex. -/
def idx1 (s : ByteArray) (c : UInt8) : Int := if fst1 s c 0 < s.size then (fst1 s c 0 : Nat) else -1

theorem fst1_le (s : ByteArray) (c : UInt8) (i : Nat) (hi : i ≤ s.size) : i ≤ fst1 s c i ∧ fst1 s c i ≤ s.size := by
  rw [fst1]
  split
  · split
    · omega
    · have := fst1_le s c (i + 1) (by omega); omega
  · omega
termination_by s.size - i

theorem fst1_none (s : ByteArray) (c : UInt8) (h : ∀ i (hi : i < s.size), s[i] ≠ c) (i : Nat) (_hi : i ≤ s.size) : fst1 s c i = s.size := by
  rw [fst1]
  split
  · rename_i hlt
    rw [if_neg (h i hlt)]
    exact fst1_none s c h (i + 1) (by omega)
  · rfl
termination_by s.size - i

theorem idx1_none {s : ByteArray} {c : UInt8} (h : ∀ i (hi : i < s.size), s[i] ≠ c) : idx1 s c = -1 := by
  unfold idx1
  rw [fst1_none s c h 0 (Nat.zero_le _), if_neg (Nat.lt_irrefl _)]

theorem ext1 (s : ByteArray) (k : Nat) (hk : k < s.size) : s.extract k (k + 1) = ⟨#[s[k]]⟩ := by
  have h0 : (⟨#[s[k]]⟩ : ByteArray).size = 1 := rfl
  have h1 : (s.extract k (k + 1)).size = 1 := by rw [ByteArray.size_extract]; omega
  apply ByteArray.ext_getElem
  · rw [h0, h1]
  · intro i hi1 hi2
    have : i = 0 := by omega
    subst this
    rw [ByteArray.getElem_extract]
    rfl

set_option maxHeartbeats 1000000 in
theorem zzIndex_any (s : ByteArray) (c : UInt8) (w : World) (hs : s.size ≤ 1000000) :
    Calls Tryz.prog 63 #[.string s, .string ⟨#[c]⟩] w fun e w' => e = .returned (.int .i64 (idx1 s c)) ∧ w = w' := by
  go_enter Tryz.func63, Tryz.ntmps63
  go_wp2
  go_loop [5] (fun i => ∃ k : Nat, i = .int .i64 k ∧ k ≤ s.size ∧ fst1 s c k = fst1 s c 0) (fun i => s.size - (intOf i).toNat)
  case atStart => exact ⟨0, rfl, Nat.zero_le _, rfl⟩
  case round =>
    obtain ⟨k, rfl, hk, hw⟩ := hrel
    have HW := Lib.hid hw
    clear hw
    have w1 : IntKind.i64.wrap ((k : Int) + 1) = (k : Int) + 1 := IntWalk.i64_in _ (by omega)
    have hz : (⟨#[c]⟩ : ByteArray).size = 1 := rfl
    by_cases hlt : k < s.size
    · have hle : (k : Int) + 1 ≤ s.size := by omega
      have h0 : (0 : Int) ≤ k := by omega
      have h2 : (k : Int) ≤ k + 1 := by omega
      have h3 : ((k : Int) + 1).toNat = k + 1 := by omega
      have he := ext1 s k hlt
      have hun : fst1 s c k = if s[k] = c then k else fst1 s c (k + 1) := by rw [fst1, dif_pos hlt]
      have HU := Lib.hid hun
      clear hun
      by_cases hc : s[k] = c
      · have hcb : (s[k] == c) = true := by simpa using hc
        have HC := Lib.hid hc
        clear hc
        go_wp2_with fail
        go_ret
        have : fst1 s c 0 = k := by rw [← HW.out, HU.out, if_pos HC.out]
        unfold idx1
        rw [this, if_pos hlt]
        exact ⟨rfl, rfl⟩
      · have hcb : (s[k] == c) = false := by simpa using hc
        have HC := Lib.hid hc
        clear hc
        go_wp2_with fail
        refine ⟨⟨k + 1, by simp, by omega, ?_⟩, ?_⟩
        · rw [← HW.out, HU.out, if_neg HC.out]
        · simp only [intOf]; omega
    · have hle : ¬ ((k : Int) + 1 ≤ s.size) := by omega
      go_wp2_with fail
      go_ret
      have hk' : k = s.size := by omega
      have h0 : fst1 s c 0 = s.size := by rw [← HW.out, hk', fst1, dif_neg (Nat.lt_irrefl _)]
      unfold idx1
      rw [h0, if_neg (Nat.lt_irrefl _)]
      exact ⟨rfl, rfl⟩

theorem zzContains_any (s : ByteArray) (c : UInt8) (w : World) (hs : s.size ≤ 1000000) :
    Calls Tryz.prog 60 #[.string s, .string ⟨#[c]⟩] w fun e w' => e = .returned (.bool (decide (0 ≤ idx1 s c))) ∧ w = w' := by
  go_enter Tryz.func60, Tryz.ntmps60
  go_wp2_with fail
  refine (zzIndex_any s c w hs).mono ?_
  rintro e w' ⟨rfl, rfl⟩
  go_wp2
  go_ret
  exact ⟨rfl, rfl⟩

/-- Join of one string. -/
theorem join_one (g cap : Nat) (s sep : ByteArray) (w : World) (h : w.cell? ⟨g, 0, none⟩ = some (.string s)) :
    Calls Tryz.prog 29 #[.slice (some ⟨g, 0, none⟩) 1 cap, .string sep] w fun e w' => e = .returned (.string s) ∧ w = w' := by
  go_enter Tryz.func29, Tryz.ntmps29
  go_wp2_with fail
  try rw [Exit.noGoto_ret]
  go_ret
  exact ⟨rfl, rfl⟩
end Go.Proofs.YtdnlfdppjfjncaaGreatDoor

/- emit, skip, parseEscape: the pieces of a line. -/
namespace Go.Proofs.YtdnlfdppjfjncaaGreatDoor
open Go Go.RowKit Go.Proofs

theorem st1 {P : Program} {w : World} {ops : Array Oper} {o : Oper} {a : Act} {K : Act → World → Prop} {Q : Exit → Act → World → Prop} {E : Prop} (hgd : o.guard = none) (s x : Operand) (t e size bytes : Nat)
    (ho : o.op = .call { callee := .builtin .append, args := #[s, x], argTypes := #[t, t] }) (z : Value)
    (ht : P.underlying t = some (.slice e)) (hi : (P.info? e).map (fun i => (i.zero, i.size, i.bytes)) = some (some z, size, bytes)) (hzs : z.cells.size = size) (hsz : 0 < size) (hby : bytes ≤ 100)
    (v : Value) (n : Nat) (xs : List Value) (hs : a.eval s = v) (hown : w.ownsRow 0 e size v n xs)
    (b c : Nat) (news : List Value) (hx : a.eval x = .slice (some ⟨b, 0, none⟩) 1 c) (hl : news.length = size) (hnews : ∀ j u, news[j]? = some u → w.cell? ⟨b, j, none⟩ = some u)
    (h1 : ∀ u ∈ news, u.oneCell' = true) (hn : n ≤ 1000000)
    (h : ∀ g cap w', w'.ownsRow 0 e size (.slice (some ⟨g, 0, none⟩) (n + 1) cap) (n + 1) (xs ++ news) → w.grownBy w' v.ownBlock → (v.ownBlock = some g ∨ g = w.heap.size) → K (a.put o.dst (.slice (some ⟨g, 0, none⟩) (n + 1) cap)) w') :
    if Region.wanted o (yielded ops a.tmps) = true then Oper.wp P o a w K Q else E := by
  obtain ⟨i0, hi0, hz⟩ := Option.map_eq_some_iff.1 hi
  simp only [Prod.mk.injEq] at hz
  obtain ⟨hz0, hz1, hz2⟩ := hz
  refine step_append_lies w hgd s x t ho 0 e i0 z size bytes ht hi0 hz0 hz1 hz2 hzs hsz v n xs hs hown ⟨b, 0, none⟩ 1 c news hx (by omega) ?_ h1 (by omega) (by unfold maxLen; omega) ?_ (Nat.zero_le _) _ rfl (fun g cap w' h2 h3 h4 _ => h g cap w' h2 h3 h4)
  · intro j u hu
    have := hnews j u hu
    simpa [Addr.add_lit] using this
  · have : (n + 1) * bytes ≤ 1000001 * 100 := Nat.mul_le_mul (by omega) hby
    omega

theorem st_inl {w : World} {ops : Array Oper} {o : Oper} {a : Act} {K : Act → World → Prop} {Q : Exit → Act → World → Prop} {E : Prop} (hgd : o.guard = none) (s x : Operand) (ho : o.op = .call { callee := .builtin .append, args := #[s, x], argTypes := #[88, 88] })
    (v : Value) (n : Nat) (xs : List Value) (hs : a.eval s = v) (hown : w.ownsRow 0 132 1 v n xs)
    (b c T : Nat) (u : Value) (hx : a.eval x = .slice (some ⟨b, 0, none⟩) 1 c) (hu : w.cell? ⟨b, 0, none⟩ = some (.iface T u)) (hn : n ≤ 1000000)
    (h : ∀ g cap w', w'.ownsRow 0 132 1 (.slice (some ⟨g, 0, none⟩) (n + 1) cap) (n + 1) (xs ++ [.iface T u]) → w.grownBy w' v.ownBlock → (v.ownBlock = some g ∨ g = w.heap.size) → K (a.put o.dst (.slice (some ⟨g, 0, none⟩) (n + 1) cap)) w') :
    if Region.wanted o (yielded ops a.tmps) = true then Oper.wp Tryz.prog o a w K Q else E :=
  st1 hgd s x 88 132 1 16 ho .nilIface Tryz.underlying88 (by kernel_rfl) rfl (by decide) (by decide) v n xs hs hown b c [.iface T u] hx rfl
    (fun j y hy => by cases j with
      | zero => simp at hy; subst hy; exact hu
      | succ j => simp at hy) (fun y hy => by simp at hy; subst hy; rfl) hn h

/-- What emit leaves where there is something to emit. -/
structure Emitted (w w' : World) (bp : Nat) (p : PSt) (n : Nat) (xs : List Value) (i : Nat) (s : ByteArray) : Prop where
  mods : Mods (fun k => k = bp ∨ p.list.ownBlock = some k) w w'
  ex : ∃ g cap b, PsAt w' bp { p with list := .slice (some ⟨g, 0, none⟩) (n + 1) cap, emitted := i } ∧
    w'.ownsRow 0 132 1 (.slice (some ⟨g, 0, none⟩) (n + 1) cap) (n + 1) (xs ++ [.iface 156 (.pointer (some ⟨b, 0, none⟩))]) ∧
    Blk w' b #[.string s] 137 ∧ w.heap.size ≤ b ∧ (p.list.ownBlock = some g ∨ w.heap.size ≤ g)

theorem emit_none (bp : Nat) (p : PSt) (e i : Int) (w : World) (hp : PsAt w bp p) (he : p.emitted = e) (hi : ¬ e < i) :
    Calls Tryz.prog 87 #[.pointer (some ⟨bp, 0, none⟩), .int .i64 i] w fun e' w' => e' = .returned (.tuple #[]) ∧ w = w' := by
  have k8 := hp.emitted
  rw [he] at k8
  go_enter Tryz.func87, Tryz.ntmps87
  go_wp2
  go_end0
  exact ⟨rfl, rfl⟩

theorem skip_any (bp : Nat) (p : PSt) (i : Int) (w : World) (hp : PsAt w bp p) :
    Calls Tryz.prog 88 #[.pointer (some ⟨bp, 0, none⟩), .int .i64 i] w fun e' w' => e' = .returned (.tuple #[]) ∧ Mods (fun k => k = bp) w w' ∧ PsAt w' bp { p with emitted := i } := by
  have k8 := hp.emitted
  have f8 := hp.fr 8
  have hl := hp.lt
  go_enter Tryz.func88, Tryz.ntmps88
  go_wp2
  go_end0
  exact ⟨rfl, (Mods.refl (fun k => k = bp) w).setCell (p := ⟨bp, 8, none⟩) (fun _ => rfl) _, hp.set 8 _ _ rfl (by decide)⟩

theorem emit_facts (bp n : Nat) (p : PSt) (xs : List Value) (v : Value) (cs : Array Value) (w w1 : World) {o : Obj} (hp : PsAt w bp p) (hL : p.list = v) (hown : w.ownsRow 0 132 1 v n xs)
    (hgrow : (((w.alloc (.cells cs 137)).alloc o).drew).grownBy w1 v.ownBlock) :
    PsAt w1 bp p ∧ Mods (fun k => k = bp ∨ v.ownBlock = some k) w w1 ∧ Blk w1 w.heap.size cs 137 ∧
      w1.cell? ⟨bp, 9, none⟩ = some v ∧ w1.cell? ⟨bp, 8, none⟩ = some (.int .i64 p.emitted) ∧ w1.frozen? ⟨bp, 9, none⟩ = false ∧ w1.frozen? ⟨bp, 8, none⟩ = false ∧ bp < w1.heap.size := by
  have hS : Same w (((w.alloc (.cells cs 137)).alloc o).drew) := (((Mods.refl (fun _ => False) w).alloc _).alloc o).drew
  have hnb : v.ownBlock ≠ some bp := fun h => own_ne_ps hown hp (by decide) h
  have hmA := grown_mods hgrow
  have hp1 := (hp.same hS).keep hmA hnb
  refine ⟨hp1, ?_, ?_, by rw [hp1.list, hL], hp1.emitted, hp1.fr 9, hp1.fr 8, hp1.lt⟩
  · exact (hS.mono (S' := fun k => k = bp ∨ v.ownBlock = some k) (fun _ _ h => absurd h (fun x => x))).then hmA (fun _ _ h => Or.inr h)
  · refine (Blk.drew (Blk.alloc (Blk.newAt (w := w) (n := w.heap.size) cs 137 rfl) o)).keep hmA (fun h => ?_)
    have := (hown.lt _ h).2
    omega

theorem Emitted.mk' {w w1 : World} {bp n g cap i : Nat} {p : PSt} {xs : List Value} {v : Value} {s : ByteArray} (hL : p.list = v) (hp1 : PsAt w1 bp p) (hm1 : Mods (fun k => k = bp ∨ v.ownBlock = some k) w w1) (hT : Blk w1 w.heap.size #[.string s] 137)
    (hown1 : w1.ownsRow 0 132 1 (.slice (some ⟨g, 0, none⟩) (n + 1) cap) (n + 1) (xs ++ [.iface 156 (.pointer (some ⟨w.heap.size, 0, none⟩))])) (hloc : v.ownBlock = some g ∨ w.heap.size ≤ g) :
    Emitted w ((w1.setCell ⟨bp, 9, none⟩ (.slice (some ⟨g, 0, none⟩) (n + 1) cap)).setCell ⟨bp, 8, none⟩ (.int .i64 i)) bp p n xs i s := by
  have hm2 : Mods (fun k => k = bp) w1 ((w1.setCell ⟨bp, 9, none⟩ (.slice (some ⟨g, 0, none⟩) (n + 1) cap)).setCell ⟨bp, 8, none⟩ (.int .i64 i)) :=
    ((Mods.refl (fun k => k = bp) w1).setCell (p := ⟨bp, 9, none⟩) (fun _ => rfl) _).setCell (p := ⟨bp, 8, none⟩) (fun _ => rfl) _
  have hne : w.heap.size ≠ bp := by
    obtain ⟨tail, htl⟩ := id hp1
    exact hT.ne_of_type htl (by decide)
  refine ⟨?_, g, cap, w.heap.size, ?_, ?_, hT.keep1 hm2 hne, Nat.le_refl _, by rw [hL]; exact hloc⟩
  · rw [hL]
    exact hm1.then hm2 (fun _ _ h => Or.inl h)
  · exact (hp1.set 9 _ { p with list := .slice (some ⟨g, 0, none⟩) (n + 1) cap } rfl (by decide)).set 8 _ _ rfl (by decide)
  · exact ownsRow_keep hown1 hm2 (fun k hk he => own_ne_ps hown1 hp1 (by decide) (by rw [← he]; exact hk))

set_option maxHeartbeats 4000000 in
theorem emit_some (bp n : Nat) (p : PSt) (xs : List Value) (e i : Nat) (w : World) (hp : PsAt w bp p) (he : p.emitted = e) (hi : e < i) (hs : i ≤ p.s.size) (_hs6 : p.s.size ≤ 1000000)
    (hown : w.ownsRow 0 132 1 p.list n xs) (hn : n ≤ 1000000) :
    Calls Tryz.prog 87 #[.pointer (some ⟨bp, 0, none⟩), .int .i64 i] w fun e' w' => e' = .returned (.tuple #[]) ∧ Emitted w w' bp p n xs i (p.s.extract e i) := by
  have k8 := hp.emitted
  have k7 := hp.s
  have k9 := hp.list
  have f8 := hp.fr 8
  have f9 := hp.fr 9
  have hbl := hp.lt
  rw [he] at k8
  have w1 : (e : Int) < i := by omega
  have w2 : (0 : Int) ≤ e := by omega
  have w3 : (e : Int) ≤ i := by omega
  have w4 : (i : Int) ≤ p.s.size := by omega
  generalize hL : p.list = v at *
  go_enter Tryz.func87, Tryz.ntmps87
  go_wp2_with fail
  have hS : ∀ o o', Same w (((w.alloc o).alloc o').drew) := fun o o' => (((Mods.refl (fun _ => False) w).alloc o).alloc o').drew
  go_region_law (refine st_inl rfl (.tmp 14) (.tmp 28) rfl v n xs rfl (ownsRow_keep hown (hS _ _) (fun _ _ x => x)) (w.heap.size + 1) 1 156 _ rfl ((Blk.drew (Blk.newAt (n := w.heap.size + 1) _ _ (by simp))).cell 0) hn ?_; intro g cap w1 hown1 hgrow hloc; obtain ⟨hp1, hm1, hT, k9', k8', f9', f8', hbl'⟩ := emit_facts bp n p xs v _ w _ hp hL hown hgrow; clear hgrow; have hl2 := hloc.imp (fun h => h) (fun h => Nat.le_trans (hS _ _).size (Nat.le_of_eq h.symm)); clear hloc)
  all_goals go_wp2_with fail
  all_goals go_end0
  all_goals exact ⟨rfl, Emitted.mk' hL hp1 hm1 hT hown1 hl2⟩
end Go.Proofs.YtdnlfdppjfjncaaGreatDoor

/- isPunct, parseEscape on a sign. -/
namespace Go.Proofs.YtdnlfdppjfjncaaGreatDoor
open Go Go.RowKit Go.Proofs

def punct (c : UInt8) : Bool := (33 ≤ c.toNat && c.toNat ≤ 47) || (58 ≤ c.toNat && c.toNat ≤ 64) || (91 ≤ c.toNat && c.toNat ≤ 96) || (123 ≤ c.toNat && c.toNat ≤ 126)

set_option maxHeartbeats 4000000 in
theorem isPunct_any (c : UInt8) (w : World) :
    Calls Tryz.prog 109 #[.int .u8 c.toNat] w fun e w' => e = .returned (.bool (punct c)) ∧ w = w' := by
  have hc : punct c = ((33 ≤ c.toNat && c.toNat ≤ 47) || (58 ≤ c.toNat && c.toNat ≤ 64) || (91 ≤ c.toNat && c.toNat ≤ 96) || (123 ≤ c.toNat && c.toNat ≤ 126)) := rfl
  generalize punct c = b at *
  have HC := Lib.hid hc
  clear hc
  go_enter Tryz.func109, Tryz.ntmps109
  go_wp2_with fail
  all_goals
    go_ret
    refine ⟨congrArg (fun b => Ending.returned (.bool b)) ?_, rfl⟩
    rw [HC.out, Bool.eq_iff_iff]
    simp
    omega

set_option maxHeartbeats 2000000 in
theorem parseEscape_punct (a : Value) (s : ByteArray) (i : Nat) (w : World) (hi : i + 1 < s.size) (hs : s.size ≤ 1000000) (hp : punct s[i + 1] = true) :
    Calls Tryz.prog 75 #[a, .string s, .int .i64 i] w fun e w' => ∃ b, e = .returned (.tuple #[.iface 176 (.pointer (some ⟨b, 0, none⟩)), .int .i64 i, .int .i64 (i + 2 : Nat), .bool true]) ∧
      Same w w' ∧ w.heap.size ≤ b ∧ Blk w' b #[.string (s.extract (i + 1) (i + 2))] 178 := by
  have w1 : IntKind.i64.wrap ((i : Int) + 1) = (i : Int) + 1 := IntWalk.i64_in _ (by omega)
  have w2 : IntKind.i64.wrap ((i : Int) + 2) = (i : Int) + 2 := IntWalk.i64_in _ (by omega)
  have w3 : (i : Int) + 1 < s.size := by omega
  have w4 : (0 : Int) ≤ (i : Int) + 1 := by omega
  have w5 : ((i : Int) + 1).toNat = i + 1 := by omega
  have w6 : ((i : Int) + 2).toNat = i + 2 := by omega
  have w7 : (i : Int) + 1 ≤ (i : Int) + 2 := by omega
  have w8 : (i : Int) + 2 ≤ s.size := by omega
  go_enter Tryz.func75, Tryz.ntmps75
  go_wp2_with fail
  refine (isPunct_any _ w).mono ?_
  rintro e w' ⟨rfl, rfl⟩
  rw [hp]
  go_wp2_with fail
  try rw [Exit.noGoto_ret]
  refine bodyPost_ret (v := .tuple #[.iface 176 (.pointer (some ⟨w.heap.size, 0, none⟩)), .int .i64 i, .int .i64 (i + 2 : Nat), .bool true]) (by simp [results, Tryz.results75, go_sem]) rfl ?_
  exact ⟨_, rfl, (Mods.refl _ w).alloc _, Nat.le_refl _, Blk.newAt _ _ rfl⟩
end Go.Proofs.YtdnlfdppjfjncaaGreatDoor

/- inline on a text of plain bytes and escaped signs: the loop. -/
namespace Go.Proofs.YtdnlfdppjfjncaaGreatDoor
open Go Go.RowKit Go.Proofs

/-- A piece of a line. -/
inductive Pc | plain (s : ByteArray) | esc (s : ByteArray) | soft | auto (t u : ByteArray) | tag (s : ByteArray)

/-- The type of the pointer in the list, that of its block, and what the block holds. -/
def Pc.ty : Pc → Nat
  | .plain _ => 156
  | .esc _ => 176
  | .soft => 193
  | .auto _ _ => 262
  | .tag _ => 285
def Pc.bty : Pc → Nat
  | .plain _ => 137
  | .esc _ => 178
  | .soft => 194
  | .auto _ _ => 264
  | .tag _ => 286
def Pc.cells : Pc → Array Value
  | .plain s => #[.string s]
  | .esc s => #[.string s]
  | .soft => #[]
  | .auto t u => #[.string t, .string u]
  | .tag s => #[.string s]

/-- A type of a piece's block. -/
def PcTy (T : Nat) : Prop := T = 137 ∨ T = 178 ∨ T = 194 ∨ T = 264 ∨ T = 286
theorem Pc.bty_is (p : Pc) : PcTy p.bty := by
  cases p
  · exact Or.inl rfl
  · exact Or.inr (Or.inl rfl)
  · exact Or.inr (Or.inr (Or.inl rfl))
  · exact Or.inr (Or.inr (Or.inr (Or.inl rfl)))
  · exact Or.inr (Or.inr (Or.inr (Or.inr rfl)))
theorem PcTy.ne {T U : Nat} (h : PcTy T) (h1 : 137 ≠ U) (h2 : 178 ≠ U) (h3 : 194 ≠ U) (h4 : 264 ≠ U) (h5 : 286 ≠ U) : T ≠ U := by
  rcases h with rfl | rfl | rfl | rfl | rfl <;> assumption

def PcAt (w : World) (x : Value) (p : Pc) : Prop := ∃ b, x = .iface p.ty (.pointer (some ⟨b, 0, none⟩)) ∧ Blk w b p.cells p.bty

def PcsAt (w : World) : List Value → List Pc → Prop
  | [], [] => True
  | x :: xs, p :: ps => PcAt w x p ∧ PcsAt w xs ps
  | _, _ => False

theorem PcAt.keep {w w' : World} {S : Nat → Prop} {x : Value} {p : Pc} (h : PcAt w x p) (hm : Mods S w w') (hS : ∀ b cs T, Blk w b cs T → PcTy T → ¬ S b) : PcAt w' x p := by
  obtain ⟨b, hx, hb⟩ := h
  exact ⟨b, hx, hb.keep hm (hS b _ _ hb p.bty_is)⟩

theorem PcsAt.keep {w w' : World} {S : Nat → Prop} (hm : Mods S w w') (hS : ∀ b cs T, Blk w b cs T → PcTy T → ¬ S b) :
    ∀ {xs : List Value} {ps : List Pc}, PcsAt w xs ps → PcsAt w' xs ps
  | [], [], _ => trivial
  | _ :: _, _ :: _, h => ⟨h.1.keep hm hS, PcsAt.keep hm hS h.2⟩
  | [], _ :: _, h => h.elim
  | _ :: _, [], h => h.elim

theorem PcsAt.snoc {w : World} {x : Value} {p : Pc} (hx : PcAt w x p) : ∀ {xs : List Value} {ps : List Pc}, PcsAt w xs ps → PcsAt w (xs ++ [x]) (ps ++ [p])
  | [], [], _ => ⟨hx, trivial⟩
  | _ :: _, _ :: _, h => ⟨h.1, PcsAt.snoc hx h.2⟩
  | [], _ :: _, h => h.elim
  | _ :: _, [], h => h.elim

theorem PcsAt.length {w : World} : ∀ {xs : List Value} {ps : List Pc}, PcsAt w xs ps → xs.length = ps.length
  | [], [], _ => rfl
  | _ :: _, _ :: _, h => congrArg (· + 1) (PcsAt.length h.2)
  | [], _ :: _, h => h.elim
  | _ :: _, [], h => h.elim

/-- No byte that begins a piece of its own. -/
def dull (c : UInt8) : Bool := !([92, 96, 60, 91, 33, 95, 42, 46, 45, 34, 39, 126, 10, 38, 58] : List UInt8).contains c

theorem dull_ne {c : UInt8} (h : dull c = true) (k : UInt8) (hk : ([92, 96, 60, 91, 33, 95, 42, 46, 45, 34, 39, 126, 10, 38, 58] : List UInt8).contains k = true) : ((c.toNat : Int) == (k.toNat : Int)) = false := by
  apply beq_eq_false_iff_ne.2
  intro he
  have : c = k := UInt8.toNat_inj.1 (by omega)
  subst this
  unfold dull at h
  rw [hk] at h
  cases h

theorem Pc.ty_open (p : Pc) : p.ty ≠ 134 := by cases p <;> simp [Pc.ty]
theorem Pc.ty_emph (p : Pc) : p.ty ≠ 190 := by cases p <;> simp [Pc.ty]
theorem as_openPlain_no (p : Pc) (X : Nat) (v : Value) (w : World) : (Instr.typeAssert (.iface p.ty v) X 134 true).run Tryz.prog w = .ok (.tuple #[.pointer none, .bool false]) w :=
  as_ptr_no _ 134 139 (by kernel_rfl) (fun _ => by kernel_rfl) X v w p.ty_open
theorem eql_func_nil (n : Nat) (w : World) : (binOp .neq 130 (.func (.func n) #[] #[]) .nilFunc).run Tryz.prog w = .ok (.bool true) w := by kernel_rfl
theorem eql_nil_nil (w : World) : (binOp .neq 130 .nilFunc .nilFunc).run Tryz.prog w = .ok (.bool false) w := by kernel_rfl

/-- What the list of pieces is, seen from the world w0 in which inline began. -/
structure Held (w0 w : World) (bp : Nat) (p : PSt) (s : ByteArray) (e n : Nat) (lv : Value) (xs : List Value) (pcs : List Pc) : Prop where
  mods : Mods (fun b => b = bp) w0 w
  at_ : PsAt w bp { p with s := s, list := lv, emitted := ((e : Nat) : Int) }
  row : w.ownsRow 0 132 1 lv n xs
  pcs : PcsAt w xs pcs
  fresh : ∀ g, lv.ownBlock = some g → w0.heap.size ≤ g

theorem Held.same {w0 w w' : World} {bp : Nat} {p : PSt} {s : ByteArray} {e n : Nat} {lv : Value} {xs : List Value} {pcs : List Pc} (h : Held w0 w bp p s e n lv xs pcs) (hm : Same w w') : Held w0 w' bp p s e n lv xs pcs :=
  ⟨h.mods.then hm (fun _ _ x => absurd x (fun x => x)), h.at_.same hm, ownsRow_keep h.row hm (fun _ _ x => x), h.pcs.keep hm (fun _ _ _ _ _ x => x), h.fresh⟩

theorem pcs_safe {w : World} {bp n : Nat} {p : PSt} {lv : Value} {xs : List Value} (hp : PsAt w bp p) (hown : w.ownsRow 0 132 1 lv n xs) :
    ∀ b cs T, Blk w b cs T → PcTy T → ¬ (b = bp ∨ lv.ownBlock = some b) := by
  intro b cs T hb hT h
  rcases h with h | h
  · obtain ⟨tail, htl⟩ := id hp
    exact hb.ne_of_type htl (hT.ne (by decide) (by decide) (by decide) (by decide) (by decide)) h
  · exact own_ne hown hb (hT.ne (by decide) (by decide) (by decide) (by decide) (by decide)) h

theorem emit_held {w0 w : World} {bp : Nat} {p : PSt} {s : ByteArray} {e n : Nat} {lv : Value} {xs : List Value} {pcs : List Pc} (h : Held w0 w bp p s e n lv xs pcs) (i : Nat) (he : e ≤ i) (hi : i ≤ s.size) (hs : s.size ≤ 1000000) (hn : n ≤ 1000000) :
    Calls Tryz.prog 87 #[.pointer (some ⟨bp, 0, none⟩), .int .i64 i] w fun e' w' => e' = .returned (.tuple #[]) ∧ ∃ n' lv' xs', n' ≤ n + 1 ∧ Mods (fun k => k = bp ∨ lv.ownBlock = some k) w w' ∧
      Held w0 w' bp p s i n' lv' xs' (pcs ++ (if e < i then [.plain (s.extract e i)] else [])) := by
  by_cases hlt : e < i
  · refine (emit_some bp n _ xs e i w h.at_ rfl hlt hi hs h.row hn).mono ?_
    rintro e' w' ⟨rfl, hm, g, cap, b, hp, hown, hb, hbn, hloc⟩
    refine ⟨rfl, n + 1, _, _, Nat.le_refl _, hm, ?_, hp, hown, ?_, ?_⟩
    · refine h.mods.then hm (fun b hb hh => ?_)
      rcases hh with hh | hh
      · exact hh
      · have := h.fresh b hh; omega
    · rw [if_pos hlt]
      exact PcsAt.snoc (p := .plain (s.extract e i)) ⟨b, rfl, hb⟩ (h.pcs.keep hm (pcs_safe h.at_ h.row))
    · intro g' hg'
      cases hg'
      rcases hloc with hh | hh
      · exact h.fresh g hh
      · exact Nat.le_trans h.mods.size hh
  · have : e = i := by omega
    subst this
    refine (emit_none bp _ e e w h.at_ rfl (by omega)).mono ?_
    rintro e' w' ⟨rfl, rfl⟩
    refine ⟨rfl, n, lv, xs, by omega, Mods.refl _ _, ?_⟩
    rw [if_neg hlt, List.append_nil]
    exact h

theorem Held.push_at {w0 w w1 : World} {bp : Nat} {p : PSt} {s : ByteArray} {e n : Nat} {lv : Value} {xs : List Value} {pcs : List Pc} {o : Obj} (h : Held w0 w bp p s e n lv xs pcs) (hgrow : (w.alloc o).grownBy w1 lv.ownBlock) :
    w1.cell? ⟨bp, 9, none⟩ = some lv ∧ w1.frozen? ⟨bp, 9, none⟩ = false ∧ bp < w1.heap.size := by
  have h1 := h.same ((Mods.refl _ w).alloc o)
  have hp1 := h1.at_.keep (grown_mods hgrow) (fun x => own_ne_ps h1.row h1.at_ (by decide) x)
  exact ⟨hp1.list, hp1.fr 9, hp1.lt⟩

/-- A piece is put behind the others, and the list stored. -/
theorem Held.push {w0 w w1 : World} {bp : Nat} {p : PSt} {s : ByteArray} {e n g cap b : Nat} {lv : Value} {xs : List Value} {pcs : List Pc} {o : Obj} {pc : Pc} (h : Held w0 w bp p s e n lv xs pcs)
    (hown1 : w1.ownsRow 0 132 1 (.slice (some ⟨g, 0, none⟩) (n + 1) cap) (n + 1) (xs ++ [.iface pc.ty (.pointer (some ⟨b, 0, none⟩))])) (hgrow : (w.alloc o).grownBy w1 lv.ownBlock) (hloc : lv.ownBlock = some g ∨ g = w.heap.size + 1)
    (hb : Blk w b pc.cells pc.bty) :
    Held w0 (w1.setCell ⟨bp, 9, none⟩ (.slice (some ⟨g, 0, none⟩) (n + 1) cap)) bp p s e (n + 1) (.slice (some ⟨g, 0, none⟩) (n + 1) cap) (xs ++ [.iface pc.ty (.pointer (some ⟨b, 0, none⟩))]) (pcs ++ [pc]) := by
  have hS : Same w (w.alloc o) := (Mods.refl _ w).alloc o
  have h1 := h.same hS
  have hmA := grown_mods hgrow
  have hnb : lv.ownBlock ≠ some bp := fun x => own_ne_ps h1.row h1.at_ (by decide) x
  have hp1 := h1.at_.keep hmA hnb
  have hx1 := h1.pcs.keep hmA (fun b cs T hb hT x => pcs_safe h1.at_ h1.row b cs T hb hT (Or.inr x))
  have hb1 := (hS.blk hb).keep hmA (fun x => pcs_safe h1.at_ h1.row b _ _ (hS.blk hb) pc.bty_is (Or.inr x))
  have hm2 : Mods (fun k => k = bp) w1 (w1.setCell ⟨bp, 9, none⟩ (.slice (some ⟨g, 0, none⟩) (n + 1) cap)) := (Mods.refl (fun k => k = bp) w1).setCell (p := ⟨bp, 9, none⟩) (fun _ => rfl) _
  refine ⟨?_, hp1.set 9 _ _ rfl (by decide), ?_, ?_, ?_⟩
  · refine (h1.mods.then hmA (fun b hb hh => ?_)).then hm2 (fun _ _ x => x)
    have := h.fresh b hh; omega
  · exact ownsRow_keep hown1 hm2 (fun k hk he => own_ne_ps hown1 hp1 (by decide) (by rw [← he]; exact hk))
  · exact PcsAt.keep hm2 (fun b cs T hb hT x => pcs_safe hp1 hown1 b cs T hb hT (Or.inl x)) (PcsAt.snoc (p := pc) ⟨b, rfl, hb1⟩ hx1)
  · intro g' hg'
    cases hg'
    rcases hloc with hh | hh
    · exact h.fresh g hh
    · have := h.mods.size
      show w0.heap.size ≤ g
      omega

/-- What the call of a piece's function gives. -/
def PieceCall (s : ByteArray) (k fn : Nat) (pc : Pc) (st en : Nat) : Prop :=
  ∀ (bp : Nat) (q : PSt) (W : World), PsAt W bp q →
    Calls Tryz.prog fn #[.pointer (some ⟨bp, 0, none⟩), .string s, .int .i64 k] W fun e w' => ∃ b c, e = .returned (.tuple #[.iface pc.ty (.pointer (some ⟨b, 0, none⟩)), .int .i64 st, .int .i64 en, .bool true]) ∧
      Mods (fun k => k = bp) W w' ∧ PsAt w' bp { q with corner := c } ∧ W.heap.size ≤ b ∧ Blk w' b pc.cells pc.bty

/-- The bytes that begin a piece, and the function that reads it. -/
def Starts (c : UInt8) (fn : Nat) : Prop :=
  (c = 92 ∧ fn = 75) ∨ (c = 60 ∧ fn = 78) ∨ (c = 10 ∧ fn = 84)

/-- How a text is read from place k on, if nothing has been emitted from e on: into these pieces. -/
inductive Plan (s : ByteArray) : Nat → Nat → List Pc → Prop
  | fin (e : Nat) : Plan s s.size e (if e < s.size then [.plain (s.extract e s.size)] else [])
  | dull {k e : Nat} {r : List Pc} (hk : k < s.size) (hd : dull s[k] = true) (h : Plan s (k + 1) e r) : Plan s k e r
  | piece {k e : Nat} {r : List Pc} (hk : k < s.size) (fn : Nat) (hb : Starts s[k] fn) (pc : Pc) (st en : Nat) (h1 : e ≤ st) (h2 : st ≤ k) (h3 : k < en) (h4 : en ≤ s.size) (hc : PieceCall s k fn pc st en) (ho : ∀ t, pc ≠ .plain t)
      (h : Plan s en en r) : Plan s k e ((if e < st then [.plain (s.extract e st)] else []) ++ pc :: r)

/-- The state of the loop. -/
def Going (w0 w : World) (bp : Nat) (p : PSt) (s : ByteArray) (all : List Pc) (k : Nat) : Prop :=
  k ≤ s.size ∧ ∃ c e n lv xs pcs r, e ≤ k ∧ n ≤ e ∧ Held w0 w bp { p with corner := c } s e n lv xs pcs ∧ Plan s k e r ∧ pcs ++ r = all

theorem Held.skipped {w0 w w' : World} {bp : Nat} {p : PSt} {s : ByteArray} {e e' n : Nat} {lv : Value} {xs : List Value} {pcs : List Pc} (h : Held w0 w bp p s e n lv xs pcs) (hm : Mods (fun k => k = bp) w w')
    (hp : PsAt w' bp { p with s := s, list := lv, emitted := ((e' : Nat) : Int) }) : Held w0 w' bp p s e' n lv xs pcs :=
  ⟨h.mods.then hm (fun _ _ x => x), hp, ownsRow_keep h.row hm (fun k hk x => own_ne_ps h.row h.at_ (by decide) (by rw [← x]; exact hk)), h.pcs.keep hm (fun b cs T hb hT x => pcs_safe h.at_ h.row b cs T hb hT (Or.inl x)), h.fresh⟩

/-- A call that changes the parser's mark of a corner case alone. -/
theorem Held.cornered {w0 w w' : World} {bp : Nat} {p : PSt} {s : ByteArray} {e n : Nat} {lv : Value} {xs : List Value} {pcs : List Pc} {c : Bool} (h : Held w0 w bp p s e n lv xs pcs) (hm : Mods (fun k => k = bp) w w')
    (hp : PsAt w' bp { ({ p with s := s, list := lv, emitted := ((e : Nat) : Int) } : PSt) with corner := c }) : Held w0 w' bp { p with corner := c } s e n lv xs pcs :=
  ⟨h.mods.then hm (fun _ _ x => x), hp, ownsRow_keep h.row hm (fun k hk x => own_ne_ps h.row h.at_ (by decide) (by rw [← x]; exact hk)), h.pcs.keep hm (fun b cs T hb hT x => pcs_safe h.at_ h.row b cs T hb hT (Or.inl x)), h.fresh⟩
end Go.Proofs.YtdnlfdppjfjncaaGreatDoor

/- toPlain, mergePlain1 of one piece, mergePlain and autoLinkText where they change nothing. -/
namespace Go.Proofs.YtdnlfdppjfjncaaGreatDoor
open Go Go.RowKit Go.Proofs

/-- An append within the capacity that writes what is there already changes nothing. -/
theorem run_same {P : Program} {w : World} (t ty e : Nat) (ht : P.underlying t = some (.slice e)) (hi : (P.info? e).map (fun i => i.size) = some 1)
    (g i n cap : Nat) (xs : List Value) (hown : w.ownsRow 0 e 1 (.slice (some ⟨g, 0, none⟩) n cap) n xs) (hin : i < n) (u : Value) (hu : xs[i]? = some u) (h1 : u.oneCell' = true) (b c : Nat) (hb : w.cell? ⟨b, 0, none⟩ = some u) :
    ∃ w', (Builtin.append_ #[t, t] ty #[.slice (some ⟨g, 0, none⟩) i cap, .slice (some ⟨b, 0, none⟩) 1 c]).run P w = .ok (.slice (some ⟨g, 0, none⟩) (i + 1) cap) w' ∧ Same w w' := by
  obtain ⟨i0, hi0, hsz⟩ := Option.map_eq_some_iff.1 hi
  rcases hown.2 with ⟨h, _⟩ | ⟨g', cap', cur, hv, _, hg, hc, hm, hs, htake⟩
  · cases h
  · cases hv
    have hlen := hown.1
    simp only [Nat.mul_one] at hs htake hlen
    have hr := run_append_room (P := P) w t ty e i0 ht hi0 g i cap cur hg ⟨b, 0, none⟩ 1 c [u] (by rw [hsz]; rfl)
      (fun j y hy => by cases j with
        | zero => simp at hy; subst hy; simpa [Addr.add_lit] using hb
        | succ j => simp at hy) (fun y hy => by simp at hy; subst hy; exact h1) (by omega) (by rw [hsz]; simp; omega)
    refine ⟨_, hr, ?_⟩
    have hcu : cur.toList[i]? = some u := by
      rw [← hu, ← htake, List.getElem?_take_of_lt hin]
    have hcur : (cur.toList.take (i * i0.size) ++ [u] ++ cur.toList.drop (i * i0.size + [u].length)).toArray = cur := by
      rw [hsz, Nat.mul_one]
      have : cur.toList.take i ++ [u] ++ cur.toList.drop (i + 1) = cur.toList := by
        apply List.ext_getElem?
        intro j
        have hle : i ≤ cur.toList.length := by simp; omega
        rcases Nat.lt_trichotomy j i with h | h | h
        · rw [List.getElem?_append_left (by simp; omega), List.getElem?_append_left (by simp; omega), List.getElem?_take_of_lt h]
        · subst h
          rw [List.getElem?_append_left (by simp; omega), List.getElem?_append_right (by simp; omega), hcu]
          have hml : min j cur.toList.length = j := Nat.min_eq_left hle
          simp only [List.length_take, hml, Nat.sub_self]
          rfl
        · rw [List.getElem?_append_right (by simp; omega)]
          simp only [List.length_append, List.length_take, List.length_singleton, List.getElem?_drop]
          have hml : min i cur.toList.length = i := Nat.min_eq_left hle
          rw [hml]
          congr 1
          omega
      simp only [List.length_singleton]
      rw [this]
    rw [hcur]
    refine ⟨rfl, rfl, rfl, by simp, fun k _ _ => ?_⟩
    by_cases hk : k = g
    · subst hk
      rw [setRow_heap w k cur cur e _ hg, hg]
    · exact setRow_other w g k cur hk

section
variable {w : World} {ops : Array Oper} {rest : List Oper} {o : Oper} {a : Act} {Q : Exit → Act → World → Prop}

theorem wp_same_inl {K : Act → World → Prop} (s x : Operand) (ho : o.op = .call { callee := .builtin .append, args := #[s, x], argTypes := #[88, 88] })
    (g i n cap : Nat) (xs : List Value) (hown : w.ownsRow 0 132 1 (.slice (some ⟨g, 0, none⟩) n cap) n xs) (hin : i < n) (u : Value) (hu : xs[i]? = some u) (h1 : u.oneCell' = true) (b c : Nat)
    (hs : a.eval s = .slice (some ⟨g, 0, none⟩) i cap) (hx : a.eval x = .slice (some ⟨b, 0, none⟩) 1 c) (hb : w.cell? ⟨b, 0, none⟩ = some u)
    (h : ∀ w', Same w w' → K (a.put o.dst (.slice (some ⟨g, 0, none⟩) (i + 1) cap)) w') : o.wp Tryz.prog a w K Q := by
  obtain ⟨w', hr, hm⟩ := run_same (P := Tryz.prog) 88 o.type 132 Tryz.underlying88 (by kernel_rfl) g i n cap xs hown hin u hu h1 b c hb
  unfold Oper.wp execOp
  simp only [ho, resolve, invoke, builtin, Sem.run_bind, Sem.run_pure, Result.andThen_ok, List.map_toArray, List.map_cons, List.map_nil, hs, hx, hr]
  exact h w' hm

theorem wl_same_inl (hgd : o.guard = none) (s x : Operand) (ho : o.op = .call { callee := .builtin .append, args := #[s, x], argTypes := #[88, 88] })
    (g i n cap : Nat) (xs : List Value) (hown : w.ownsRow 0 132 1 (.slice (some ⟨g, 0, none⟩) n cap) n xs) (hin : i < n) (u : Value) (hu : xs[i]? = some u) (h1 : u.oneCell' = true) (b c : Nat)
    (hs : a.eval s = .slice (some ⟨g, 0, none⟩) i cap) (hx : a.eval x = .slice (some ⟨b, 0, none⟩) 1 c) (hb : w.cell? ⟨b, 0, none⟩ = some u)
    (h : ∀ w', Same w w' → wpList Tryz.prog ops Q rest (a.put o.dst (.slice (some ⟨g, 0, none⟩) (i + 1) cap)) w') : wpList Tryz.prog ops Q (o :: rest) a w :=
  wpList_plain hgd fun _ hK => wp_same_inl s x ho g i n cap xs hown hin u hu h1 b c hs hx hb fun w' hm => hK _ _ (h w' hm)

theorem st_same_inl {K : Act → World → Prop} {E : Prop} (hgd : o.guard = none) (s x : Operand) (ho : o.op = .call { callee := .builtin .append, args := #[s, x], argTypes := #[88, 88] })
    (g i n cap : Nat) (xs : List Value) (hown : w.ownsRow 0 132 1 (.slice (some ⟨g, 0, none⟩) n cap) n xs) (hin : i < n) (u : Value) (hu : xs[i]? = some u) (h1 : u.oneCell' = true) (b c : Nat)
    (hs : a.eval s = .slice (some ⟨g, 0, none⟩) i cap) (hx : a.eval x = .slice (some ⟨b, 0, none⟩) 1 c) (hb : w.cell? ⟨b, 0, none⟩ = some u)
    (h : ∀ w', Same w w' → K (a.put o.dst (.slice (some ⟨g, 0, none⟩) (i + 1) cap)) w') : if Region.wanted o (yielded ops a.tmps) = true then Oper.wp Tryz.prog o a w K Q else E := by
  have hw : Region.wanted o (yielded ops a.tmps) = true := by simp [Region.wanted, hgd]
  rw [if_pos hw]
  exact wp_same_inl s x ho g i n cap xs hown hin u hu h1 b c hs hx hb h
end

theorem as_plain_yes (X : Nat) (v : Value) (w : World) : (Instr.typeAssert (.iface 156 v) X 156 true).run Tryz.prog w = .ok (.tuple #[v, .bool true]) w := by kernel_rfl
theorem as_emphPlain_no (p : Pc) (X : Nat) (v : Value) (w : World) : (Instr.typeAssert (.iface p.ty v) X 190 true).run Tryz.prog w = .ok (.tuple #[.pointer none, .bool false]) w :=
  as_ptr_no _ 190 192 (by kernel_rfl) (fun _ => by kernel_rfl) X v w p.ty_emph

/-- A piece that is no plain text. -/
def Pc.other (p : Pc) : Prop := ∀ s, p ≠ .plain s
theorem Pc.ty_other {p : Pc} (h : p.other) : p.ty ≠ 156 := by
  cases p with
  | plain s => exact absurd rfl (h s)
  | _ => simp [Pc.ty]
theorem as_plain_no {p : Pc} (h : p.other) (X : Nat) (v : Value) (w : World) : (Instr.typeAssert (.iface p.ty v) X 156 true).run Tryz.prog w = .ok (.tuple #[.pointer none, .bool false]) w :=
  as_ptr_no _ 156 137 (by kernel_rfl) (fun _ => by kernel_rfl) X v w (Pc.ty_other h)

theorem toPlain_plain (a : Option Addr) (w : World) : Calls Tryz.prog 131 #[.iface 156 (.pointer a)] w fun e w' => e = .returned (.pointer a) ∧ w = w' := by
  have h := as_plain_yes
  go_enter Tryz.func131, Tryz.ntmps131
  go_wp2_with fail
  try rw [Exit.noGoto_ret]
  go_ret
  exact ⟨rfl, rfl⟩

theorem toPlain_other {p : Pc} (h : p.other) (a : Option Addr) (w : World) : Calls Tryz.prog 131 #[.iface p.ty (.pointer a)] w fun e w' => e = .returned (.pointer none) ∧ w = w' := by
  have h1 := as_plain_no h
  have h2 := as_emphPlain_no p
  have h3 := as_openPlain_no p
  clear h
  generalize p.ty = T at *
  go_enter Tryz.func131, Tryz.ntmps131
  go_wp2_with fail
  try rw [Exit.noGoto_ret]
  go_ret
  exact ⟨rfl, rfl⟩

theorem mergePlain1_one (g i cap : Nat) (a : Option Addr) (w : World) (h : w.cell? ⟨g, i, none⟩ = some (.iface 156 (.pointer a))) :
    Calls Tryz.prog 132 #[.slice (some ⟨g, i, none⟩) 1 cap] w fun e w' => e = .returned (.pointer a) ∧ w = w' := by
  go_enter Tryz.func132, Tryz.ntmps132
  go_wp2_with fail
  refine (toPlain_plain a w).mono ?_
  rintro e w' ⟨rfl, rfl⟩
  go_wp2_with fail
  go_ret
  exact ⟨rfl, rfl⟩

theorem autoLinkText_off (bp : Nat) (p : PSt) (v : Value) (w : World) (hp : PsAt w bp p) (hO : Opt w p 3 false) :
    Calls Tryz.prog 93 #[.pointer (some ⟨bp, 0, none⟩), v] w fun e w' => e = .returned v ∧ w = w' := by
  have k0 := hp.parser
  have kO := hO.cell
  go_enter Tryz.func93, Tryz.ntmps93
  go_wp2_with fail
  go_ret
  exact ⟨rfl, rfl⟩
end Go.Proofs.YtdnlfdppjfjncaaGreatDoor

/- mergePlain and emph change nothing in a list of pieces where no two plain ones stand side by side. -/
namespace Go.Proofs.YtdnlfdppjfjncaaGreatDoor
open Go Go.RowKit Go.Proofs

theorem PcsAt.get {w : World} : ∀ {xs : List Value} {ps : List Pc} (i : Nat), PcsAt w xs ps → i < xs.length → ∃ x pc, xs[i]? = some x ∧ ps[i]? = some pc ∧ PcAt w x pc
  | [], [], i, _, h => absurd h (Nat.not_lt_zero _)
  | x :: _, p :: _, 0, h, _ => ⟨x, p, rfl, rfl, h.1⟩
  | _ :: _, _ :: _, i + 1, h, hi => by
    obtain ⟨x, pc, h1, h2, h3⟩ := PcsAt.get i h.2 (by simpa using hi)
    exact ⟨x, pc, by simpa using h1, by simpa using h2, h3⟩
  | [], _ :: _, _, h, _ => h.elim
  | _ :: _, [], _, h, _ => h.elim

/-- No two plain pieces side by side. -/
def NoPP (ps : List Pc) : Prop := ∀ i s t, ps[i]? = some (.plain s) → ps[i + 1]? = some (.plain t) → False

/-- What stands at one place of the list: the cell, and which piece. -/
theorem piece_at {w : World} {g n cap : Nat} {xs : List Value} {ps : List Pc} (hown : w.ownsRow 0 132 1 (.slice (some ⟨g, 0, none⟩) n cap) n xs) (hx : PcsAt w xs ps) (i : Nat) (hi : i < n) :
    (∃ b s, w.cell? ⟨g, i, none⟩ = some (.iface 156 (.pointer (some ⟨b, 0, none⟩))) ∧ xs[i]? = some (.iface 156 (.pointer (some ⟨b, 0, none⟩))) ∧ ps[i]? = some (.plain s)) ∨
    (∃ b pc, w.cell? ⟨g, i, none⟩ = some (.iface pc.ty (.pointer (some ⟨b, 0, none⟩))) ∧ xs[i]? = some (.iface pc.ty (.pointer (some ⟨b, 0, none⟩))) ∧ ps[i]? = some pc ∧ pc.other) := by
  have hl : xs.length = n := by have := hown.1; omega
  obtain ⟨_, _, he, _, _, hc⟩ := ownsRow_form hown (by omega)
  cases he
  obtain ⟨x, pc, h1, h2, h3⟩ := hx.get i (by omega)
  obtain ⟨b, rfl, _⟩ := h3
  cases pc with
  | plain s => exact Or.inl ⟨b, s, hc i _ h1, h1, h2⟩
  | esc s => exact Or.inr ⟨b, .esc s, hc i _ h1, h1, h2, fun _ h => by cases h⟩
  | soft => exact Or.inr ⟨b, .soft, hc i _ h1, h1, h2, fun _ h => by cases h⟩
  | auto t u => exact Or.inr ⟨b, .auto t u, hc i _ h1, h1, h2, fun _ h => by cases h⟩
  | tag s => exact Or.inr ⟨b, .tag s, hc i _ h1, h1, h2, fun _ h => by cases h⟩

/-- Such a place, the type a letter. -/
theorem piece_other {w : World} {g n cap : Nat} {xs : List Value} {ps : List Pc} (hown : w.ownsRow 0 132 1 (.slice (some ⟨g, 0, none⟩) n cap) n xs) (hx : PcsAt w xs ps) (i : Nat) (hi : i < n) :
    (∃ b s, w.cell? ⟨g, i, none⟩ = some (.iface 156 (.pointer (some ⟨b, 0, none⟩))) ∧ xs[i]? = some (.iface 156 (.pointer (some ⟨b, 0, none⟩))) ∧ ps[i]? = some (.plain s)) ∨
    (∃ b T, w.cell? ⟨g, i, none⟩ = some (.iface T (.pointer (some ⟨b, 0, none⟩))) ∧ xs[i]? = some (.iface T (.pointer (some ⟨b, 0, none⟩))) ∧ (∀ s, ps[i]? ≠ some (.plain s)) ∧
      (∀ a W, Calls Tryz.prog 131 #[.iface T (.pointer a)] W fun e w' => e = .returned (.pointer none) ∧ W = w')) := by
  rcases piece_at hown hx i hi with h | ⟨b, pc, h1, h2, h3, h4⟩
  · exact Or.inl h
  · exact Or.inr ⟨b, pc.ty, h1, h2, fun s h => by rw [h3] at h; exact h4 s (Option.some.inj h), fun a W => toPlain_other h4 a W⟩

/-- What a place holds, for emph: no mark of emphasis, no bracket. -/
theorem piece_quiet {w : World} {g n cap : Nat} {xs : List Value} {ps : List Pc} (hown : w.ownsRow 0 132 1 (.slice (some ⟨g, 0, none⟩) n cap) n xs) (hx : PcsAt w xs ps) (i : Nat) (hi : i < n) :
    ∃ b T, w.cell? ⟨g, i, none⟩ = some (.iface T (.pointer (some ⟨b, 0, none⟩))) ∧ xs[i]? = some (.iface T (.pointer (some ⟨b, 0, none⟩))) ∧
      (∀ X v W, (Instr.typeAssert (.iface T v) X 134 true).run Tryz.prog W = .ok (.tuple #[.pointer none, .bool false]) W) ∧
      (∀ X v W, (Instr.typeAssert (.iface T v) X 190 true).run Tryz.prog W = .ok (.tuple #[.pointer none, .bool false]) W) := by
  rcases piece_at hown hx i hi with ⟨b, s, h1, h2, _⟩ | ⟨b, pc, h1, h2, _, _⟩
  · exact ⟨b, _, h1, h2, as_openPlain_no (.plain s), as_emphPlain_no (.plain s)⟩
  · exact ⟨b, pc.ty, h1, h2, as_openPlain_no pc, as_emphPlain_no pc⟩

set_option maxRecDepth 100000 in
set_option maxHeartbeats 4000000 in
theorem mergePlain_id (q : Value) (g n cap : Nat) (xs : List Value) (ps : List Pc) (w : World) (hown : w.ownsRow 0 132 1 (.slice (some ⟨g, 0, none⟩) n cap) n xs) (hx : PcsAt w xs ps) (hpp : NoPP ps) (hn : n ≤ 1000000) :
    Calls Tryz.prog 92 #[q, .slice (some ⟨g, 0, none⟩) n cap] w fun e w' => e = .returned (.slice (some ⟨g, 0, none⟩) n cap) ∧ Same w w' := by
  have hcap : n ≤ cap := by
    rcases hown.2 with ⟨h, _⟩ | ⟨_, _, _, h, _, _, hc, _⟩
    · cases h
    · cases h; exact hc
  have c1 : (0 : Int) ≤ cap := by omega
  go_enter Tryz.func92, Tryz.ntmps92
  go_wp2_with fail
  go_loopg [5, 6, 7] (n + 1) (fun m v5 v6 v7 wr => ∃ i : Nat, v7 = .int .i64 i ∧ m = n + 1 - i ∧ i ≤ n ∧ Same w wr ∧
    ((v5 = .slice (some ⟨g, 0, none⟩) i cap ∧ v6 = .int .i64 i ∧ (∀ k, i = k + 1 → ∀ s, ps[k]? ≠ some (.plain s))) ∨ (∃ k s, i = k + 1 ∧ v5 = .slice (some ⟨g, 0, none⟩) k cap ∧ v6 = .int .i64 k ∧ ps[k]? = some (.plain s))))
  case atStart => exact ⟨0, rfl, by omega, by omega, Mods.refl _ _, Or.inl ⟨rfl, rfl, fun k hk => by omega⟩⟩
  case round =>
    obtain ⟨i, rfl, rfl, hi, hm, hor⟩ := hrel
    have hownr := ownsRow_keep hown hm (fun _ _ x => x)
    have hxr := hx.keep hm (fun _ _ _ _ _ x => x)
    have w1 : IntKind.i64.wrap ((i : Int) + 1) = (i : Int) + 1 := IntWalk.i64_in _ (by omega)
    have w2 : (0 : Int) ≤ i := by omega
    have HM := Lib.hid hm
    clear hm
    by_cases hlt : i < n
    · have w3 : (i : Int) < n := by omega
      have w4 : ¬ ((n : Int) ≤ i) := by omega
      rcases piece_other hownr hxr i hlt with ⟨b, s, hc, hxi, hpi⟩ | ⟨b, T, hc, hxi, hpi, hTP⟩
      · rcases hor with ⟨rfl, rfl, hno⟩ | ⟨k, t, hik, rfl, rfl, hk⟩
        · clear hno
          go_wp2_with fail
          refine (toPlain_plain _ wr).mono ?_
          rintro e w' ⟨rfl, rfl⟩
          go_wp2_with fail
          go_roundg (n + 1 - (i + 1))
          case measure => omega
          case rel => exact ⟨i + 1, by simp, rfl, by omega, HM.out, Or.inr ⟨i, s, rfl, rfl, rfl, hpi⟩⟩
        · subst hik; exact (hpp k t s hk hpi).elim
      · rcases hor with ⟨rfl, rfl, hno⟩ | ⟨k, t, hik, rfl, rfl, hk⟩
        · clear hno
          go_wp2_with fail
          refine (hTP _ wr).mono ?_
          rintro e w' ⟨rfl, rfl⟩
          go_wp2_with (at_builtin; refine wl_same_inl rfl (.tmp 40) (.tmp 45) rfl g i n cap xs (hownr.alloc _) hlt _ hxi rfl wr.heap.size 1 rfl rfl ((Blk.newAt _ _ rfl).cell 0) ?_)
          intro wB hmB
          go_wp2_with fail
          go_roundg (n + 1 - (i + 1))
          case measure => omega
          case rel => exact ⟨i + 1, by simp, rfl, by omega, (HM.out.alloc _).trans hmB, Or.inl ⟨rfl, by simp, fun k hk s' hs' => by cases hk; exact hpi s' hs'⟩⟩
        · obtain ⟨b0, s0, hc0, hx0, hp0⟩ | ⟨b0, pc0, hc0, hx0, hp0, ho0⟩ := piece_at hownr hxr k (by omega)
          · have v1 : (k : Int) < i := by omega
            have v2 : (0 : Int) ≤ k := by omega
            have v3 : (k : Int) ≤ i := by omega
            have v4 : (i : Int) ≤ cap := by omega
            have v5 : i - k = 1 := by omega
            have hkn : k < n := by omega
            have HI := Lib.hid hik
            clear hik hk
            go_wp2_with fail
            refine (hTP _ wr).mono ?_
            rintro e w' ⟨rfl, rfl⟩
            go_wp2_with fail
            refine (mergePlain1_one g k _ _ wr hc0).mono ?_
            rintro e w' ⟨rfl, rfl⟩
            go_wp2_with (at_builtin; refine wl_same_inl rfl (.tmp 27) (.tmp 34) rfl g k n cap xs (hownr.alloc _) hkn _ hx0 rfl wr.heap.size 1 rfl rfl ((Blk.newAt _ _ rfl).cell 0) ?_)
            intro wB hmB
            have hmB' := ((Mods.refl (fun _ => False) wr).alloc _).trans hmB
            have hownB := ownsRow_keep hownr hmB' (fun _ _ x => x)
            have hcB : wB.cell? ⟨g, i, none⟩ = some (.iface T (.pointer (some ⟨b, 0, none⟩))) := by
              obtain ⟨_, _, he, _, _, hcc⟩ := ownsRow_form hownB (by omega)
              cases he
              exact hcc i _ hxi
            go_wp2_with (at_builtin; refine wl_same_inl rfl (.tmp 40) (.tmp 45) rfl g (k + 1) n cap xs (hownB.alloc _) (by have := HI.out; omega) _ (by rw [← HI.out]; exact hxi) rfl wB.heap.size 1 rfl rfl ((Blk.newAt _ _ rfl).cell 0) ?_)
            intro wC hmC
            go_wp2_with fail
            go_roundg (n + 1 - (i + 1))
            case measure => omega
            case rel => exact ⟨i + 1, by simp, rfl, by omega, ((HM.out.trans hmB').alloc _).trans hmC, Or.inl ⟨by rw [HI.out], by simp, fun k hk s' hs' => by cases hk; exact hpi s' hs'⟩⟩
          · rw [hk] at hp0; cases hp0; exact absurd rfl (ho0 _)
    · have hin : i = n := by omega
      subst hin
      have w3 : ¬ ((i : Int) < i) := by omega
      rcases hor with ⟨rfl, rfl, hno⟩ | ⟨k, t, hik, rfl, rfl, hk⟩
      · clear hno
        go_wp2_with fail
        go_ret
        exact ⟨rfl, HM.out⟩
      · obtain ⟨b0, s0, hc0, hx0, hp0⟩ | ⟨b0, pc0, hc0, hx0, hp0, ho0⟩ := piece_at hownr hxr k (by omega)
        · have v1 : (k : Int) < i := by omega
          have v2 : (0 : Int) ≤ k := by omega
          have v3 : (k : Int) ≤ i := by omega
          have v4 : (i : Int) ≤ cap := by omega
          have v5 : i - k = 1 := by omega
          have hkn : k < i := by omega
          have HI := Lib.hid hik
          clear hik hk
          go_wp2_with fail
          refine (mergePlain1_one g k _ _ wr hc0).mono ?_
          rintro e w' ⟨rfl, rfl⟩
          go_wp2_with (at_builtin; refine wl_same_inl rfl (.tmp 27) (.tmp 34) rfl g k i cap xs (hownr.alloc _) hkn _ hx0 rfl wr.heap.size 1 rfl rfl ((Blk.newAt _ _ rfl).cell 0) ?_)
          intro wB hmB
          have hmB' := ((Mods.refl (fun _ => False) wr).alloc _).trans hmB
          go_wp2_with fail
          go_ret
          exact ⟨by rw [HI.out]; rfl, HM.out.trans hmB'⟩
        · rw [hk] at hp0; cases hp0; exact absurd rfl (ho0 _)
end Go.Proofs.YtdnlfdppjfjncaaGreatDoor

/- emph changes nothing in a list without marks of emphasis. -/
namespace Go.Proofs.YtdnlfdppjfjncaaGreatDoor
open Go Go.RowKit Go.Proofs

theorem emph_facts {wr w1 wB : World} {b T : Nat} {v : Value} (h1 : Same wr w1) (h2 : Same w1 wB) (hD : Blk wr b #[v] T) :
    Same wr wB ∧ Blk wB b #[v] T ∧ wB.cell? ⟨b, 0, none⟩ = some v ∧ wB.frozen? ⟨b, 0, none⟩ = false ∧ b < wB.heap.size := by
  have h := h1.trans h2
  have hB := Same.blk h hD
  exact ⟨h, hB, hB.cell 0, hB.fr 0, hB.lt⟩

theorem emph_end {w wr wB : World} {b : Nat} {v : Value} (h1 : Same w wr) (h2 : Same wr wB) (hb : w.heap.size ≤ b) : Same w (wB.setCell ⟨b, 0, none⟩ v) :=
  (h1.trans h2).setCell (p := ⟨b, 0, none⟩) (fun h => absurd h (Nat.not_lt.2 hb)) v

set_option maxRecDepth 100000 in
set_option maxHeartbeats 8000000 in
theorem emph_id (q : Value) (g n cap : Nat) (xs : List Value) (ps : List Pc) (w : World) (hown : w.ownsRow 0 132 1 (.slice (some ⟨g, 0, none⟩) n cap) n xs) (hx : PcsAt w xs ps) (hn : n ≤ 1000000) :
    Calls Tryz.prog 91 #[q, .slice (some ⟨g, 0, none⟩) 0 cap, .slice (some ⟨g, 0, none⟩) n cap] w fun e w' => e = .returned (.slice (some ⟨g, 0, none⟩) n cap) ∧ Same w w' := by
  have hcap : n ≤ cap := by
    rcases hown.2 with ⟨h, _⟩ | ⟨_, _, _, h, _, _, hc, _⟩
    · cases h
    · cases h; exact hc
  go_enter Tryz.func91, Tryz.ntmps91
  go_wp2_with fail
  go_step3
  go_wp2_with fail
  go_step3
  go_wp2_with fail
  generalize hW : (World.alloc _ _ : World) = W
  have hS : Same w W := by subst hW; exact ((Mods.refl _ w).alloc _).alloc _
  have hD : Blk W w.heap.size #[.slice (some ⟨g, 0, none⟩) 0 cap] 88 := by subst hW; exact (Blk.newAt _ _ rfl).alloc _
  clear hW
  refine wp_loop_ghost_k (fun m a wr => ∃ (i : Nat) (v : Nat → Value), (m = n - i ∧ i ≤ n ∧ Same w wr ∧ Blk wr w.heap.size #[.slice (some ⟨g, 0, none⟩) i cap] 88) ∧
    a = ⟨#[q, .slice (some ⟨g, 0, none⟩) 0 cap, .slice (some ⟨g, 0, none⟩) n cap, undef, .pointer (some ⟨w.heap.size, 0, none⟩), undef, .slice none 0 0, .pointer (some ⟨w.heap.size + 1, 0, none⟩), .func (.func 129) #[] #[], .func (.func 130) #[] #[.pointer (some ⟨w.heap.size + 1, 0, none⟩), .pointer (some ⟨w.heap.size, 0, none⟩)], .int .i64 i, v 11, v 12, v 13, v 14, v 15, v 16, v 17, v 18, v 19, v 20, v 21, .func (.func 130) #[] #[.pointer (some ⟨w.heap.size + 1, 0, none⟩), .pointer (some ⟨w.heap.size, 0, none⟩)], v 23, v 24, v 25, v 26, v 27, v 28, v 29, v 30, v 31, v 32, v 33, v 34, v 35, v 36, v 37, v 38, v 39, v 40, v 41, v 42, v 43, v 44, v 45, v 46, v 47, v 48, v 49, v 50, v 51, v 52, v 53, v 54, v 55, v 56, v 57, v 58, v 59, v 60, v 61, v 62, v 63, v 64, v 65, v 66, v 67, v 68, v 69, v 70, v 71, v 72, v 73, v 74, v 75, v 76, v 77, v 78, v 79, v 80, v 81, v 82, v 83, v 84, v 85, v 86, v 87, v 88, v 89, v 90, v 91, v 92, v 93, v 94, v 95, v 96, v 97, v 98, v 99, v 100, v 101, v 102, v 103, v 104, v 105, v 106, v 107, v 108, v 109, v 110, v 111, v 112, v 113, v 114, v 115, v 116, v 117, v 118, v 119, v 120, v 121, v 122, v 123, v 124, v 125, v 126, v 127, v 128, v 129, v 130, v 131, v 132, v 133, v 134, v 135, v 136, v 137, v 138, v 139, v 140, v 141, v 142, v 143, v 144, v 145, v 146, v 147, v 148, v 149, v 150, v 151, v 152, v 153, v 154, v 155, v 156, v 157, v 158, v 159, v 160, v 161, v 162, v 163, v 164, v 165, v 166, v 167, v 168, v 169, v 170, v 171, v 172, v 173, v 174, v 175, v 176, v 177, v 178, v 179, v 180, v 181, v 182, v 183, v 184, v 185, v 186, v 187, v 188, v 189, v 190, v 191, v 192, v 193, v 194, v 195, v 196, v 197, v 198, v 199, v 200, v 201, v 202, v 203, v 204, v 205, v 206, v 207, v 208, v 209, v 210, v 211, v 212, v 213, v 214, v 215, v 216, v 217, v 218, v 219, v 220, v 221, v 222, v 223, v 224, v 225, v 226, v 227, v 228, v 229, v 230, v 231, v 232, v 233, v 234, v 235, v 236, v 237, v 238, v 239, v 240, v 241, v 242, v 243, v 244, v 245, v 246, v 247, v 248, v 249, v 250, v 251, v 252, v 253, v 254, v 255, v 256, v 257, v 258, v 259, v 260, v 261, v 262, v 263, v 264, v 265, v 266, v 267, v 268, v 269, v 270, v 271, v 272, v 273, v 274, v 275, v 276, v 277, v 278, v 279, v 280, v 281, v 282, v 283, v 284, v 285, v 286, v 287, v 288, v 289, v 290, v 291, v 292, v 293, v 294, v 295, v 296, v 297, v 298, v 299, v 300, v 301, v 302, v 303, v 304, v 305, v 306, v 307, v 308, v 309, v 310, v 311, v 312, v 313, v 314, v 315, v 316, v 317, v 318, v 319, v 320, v 321, v 322, v 323, v 324, v 325, v 326, v 327, v 328, v 329, v 330, v 331, v 332, v 333, v 334, v 335, v 336, v 337, v 338, v 339, v 340, v 341, v 342, v 343, v 344, v 345, v 346, v 347, v 348, v 349, v 350, v 351, v 352, v 353, v 354, v 355, v 356, v 357, v 358, v 359, v 360, v 361, v 362, v 363, v 364, v 365, v 366, v 367, v 368, v 369, v 370, v 371, v 372, v 373, v 374, v 375, v 376, v 377, v 378, v 379, v 380, v 381, v 382, v 383, v 384, v 385, v 386, v 387, v 388, v 389, v 390, v 391, v 392, v 393, v 394, v 395, v 396, v 397, v 398, v 399, v 400, v 401, v 402, v 403, v 404, v 405, v 406, v 407, v 408, v 409, v 410, v 411, v 412, v 413, v 414, v 415, v 416, v 417, v 418, v 419, v 420, v 421, v 422, v 423, v 424, v 425, v 426, v 427, v 428, v 429, v 430, v 431, v 432, v 433, v 434, v 435], []⟩) n ⟨0, fun _ => undef, ⟨rfl, Nat.zero_le _, hS, hD⟩, rfl⟩ ?_
  · clear hS hD
    intro gk a wr hinv
    obtain ⟨i, v, ⟨rfl, hi, hm, hD⟩, rfl⟩ := hinv
    intro J K hJ hK
    have hownr := ownsRow_keep hown hm (fun _ _ x => x)
    have hxr := hx.keep hm (fun _ _ _ _ _ x => x)
    have w1 : IntKind.i64.wrap ((i : Int) + 1) = (i : Int) + 1 := IntWalk.i64_in _ (by omega)
    have w2 : (0 : Int) ≤ i := by omega
    have hDc : wr.cell? ⟨w.heap.size, 0, none⟩ = some (.slice (some ⟨g, 0, none⟩) i cap) := hD.cell 0
    have hDf : wr.frozen? ⟨w.heap.size, 0, none⟩ = false := hD.fr 0
    have hDl := hD.lt
    have hDn : w.heap.size ≤ w.heap.size := Nat.le_refl _
    have HM := Lib.hid hm
    clear hm
    by_cases hlt : i < n
    · have w3 : (i : Int) < n := by omega
      obtain ⟨b, T, hc, hxi, h1, h2⟩ := piece_quiet hownr hxr i hlt
      all_goals
        go_wp2_with fail
        have hS : ∀ o, Same wr ((wr.alloc o).drew) := fun o => ((Mods.refl (fun _ => False) wr).alloc o).drew
        go_region_law (refine st_same_inl rfl (.tmp 55) (.tmp 60) rfl g i n cap xs (ownsRow_keep hownr (hS _) (fun _ _ x => x)) hlt _ hxi rfl wr.heap.size 1 rfl rfl ((Blk.drew (Blk.newAt _ _ rfl)).cell 0) ?_; intro wB hmB; obtain ⟨hm2, hD2, hDc', hDf', hDl'⟩ := emph_facts (hS _) hmB hD)
        all_goals
          go_wp2_with fail
          refine Handed.intro (n - (i + 1)) (by omega) (hJ _ _ _ ⟨i + 1, (fun d => cond (Nat.ble 11 d && Nat.ble d 61) (cond (Nat.ble d 42) (cond (Nat.ble d 26) (List.getD [_, _, _, _, _, _, _, _, _, _, _, undef, _, _, _, _] (d - 11) undef) (List.getD [_, _, _, _, _, _, _, _, _, _, _, _, _, _, _, _] (d - 27) undef)) (cond (Nat.ble d 58) (List.getD [_, _, _, _, _, _, _, _, _, _, _, _, _, _, _, _] (d - 43) undef) (List.getD [_, _, _] (d - 59) undef))) (v d)), ⟨rfl, by omega, emph_end HM.out hm2 hDn, Blk.set_same hD2 0 _⟩, rfl⟩)
    · have hin : i = n := by omega
      subst hin
      have w3 : ¬ ((i : Int) < i) := by omega
      go_wp2_with fail
      go_ret
      exact ⟨rfl, HM.out⟩
end Go.Proofs.YtdnlfdppjfjncaaGreatDoor

/- inline on a text of plain bytes and escaped signs: the walk. -/
namespace Go.Proofs.YtdnlfdppjfjncaaGreatDoor
open Go Go.RowKit Go.Proofs

theorem NoPP.nil : NoPP [] := fun i s t h => by cases i <;> cases h
theorem NoPP.one (p : Pc) : NoPP [p] := fun i s t _ h => by cases i <;> cases h
theorem NoPP.piece {ps : List Pc} {pc : Pc} (ho : ∀ t, pc ≠ .plain t) (h : NoPP ps) : NoPP (pc :: ps) := fun i a b h1 h2 => by
  cases i with
  | zero => simp at h1; exact ho a h1
  | succ i => simp at h1 h2; exact h i a b h1 h2
theorem NoPP.plain {ps : List Pc} {s : ByteArray} {pc : Pc} (ho : ∀ t, pc ≠ .plain t) (h : NoPP (pc :: ps)) : NoPP (.plain s :: pc :: ps) := fun i a b h1 h2 => by
  cases i with
  | zero => simp at h2; exact ho b h2
  | succ i => simp at h1 h2; exact h i a b (by simpa using h1) (by simpa using h2)

theorem plan_alt {s : ByteArray} {k e : Nat} {r : List Pc} (h : Plan s k e r) : NoPP r := by
  induction h with
  | fin e =>
    split
    · exact NoPP.one _
    · exact NoPP.nil
  | dull _ _ _ ih => exact ih
  | piece _ _ _ pc _ _ _ _ _ _ _ ho _ ih =>
    split
    · exact NoPP.plain ho (NoPP.piece ho ih)
    · exact NoPP.piece ho ih

theorem plan_ne {s : ByteArray} {k e : Nat} {r : List Pc} (h : Plan s k e r) : e < s.size → r ≠ [] := by
  induction h with
  | fin e => intro h; rw [if_pos h]; simp
  | dull _ _ _ ih => exact ih
  | piece _ _ _ _ _ _ _ _ _ _ _ _ _ _ => intro _; simp

theorem plan_end {s : ByteArray} {e : Nat} {r : List Pc} (h : Plan s s.size e r) : r = if e < s.size then [.plain (s.extract e s.size)] else [] := by
  generalize hk : s.size = k at h
  cases h with
  | fin e => rfl
  | dull h1 _ _ => omega
  | piece h1 _ _ _ _ _ _ _ _ _ _ _ _ => omega

theorem plan_cases {s : ByteArray} {k e : Nat} {r : List Pc} (h : Plan s k e r) :
    (∃ hk : k < s.size, dull s[k] = true ∧ Plan s (k + 1) e r) ∨
    (∃ (hk : k < s.size) (fn : Nat) (pc : Pc) (st en : Nat) (r' : List Pc), Starts s[k] fn ∧ e ≤ st ∧ st ≤ k ∧ k < en ∧ en ≤ s.size ∧ PieceCall s k fn pc st en ∧ Plan s en en r' ∧ r = (if e < st then [.plain (s.extract e st)] else []) ++ pc :: r') ∨ k = s.size := by
  cases h with
  | fin e => exact Or.inr (Or.inr rfl)
  | dull h1 h2 h3 => exact Or.inl ⟨h1, h2, h3⟩
  | piece h1 fn h2 pc st en h3 h4 h5 h6 h7 _ h8 => exact Or.inr (Or.inl ⟨h1, fn, pc, st, en, _, h2, h3, h4, h5, h6, h7, h8, rfl⟩)

theorem Held.again {w0 w w' : World} {bp : Nat} {p : PSt} {s : ByteArray} {e n : Nat} {lv : Value} {xs : List Value} {pcs : List Pc} (h : Held w0 w bp p s e n lv xs pcs) (hm : Same w w') :
    Held w0 (w'.setCell ⟨bp, 9, none⟩ lv) bp p s e n lv xs pcs :=
  (h.same hm).skipped ((Mods.refl (fun k => k = bp) w').setCell (p := ⟨bp, 9, none⟩) (fun _ => rfl) _) (((h.same hm).at_).set 9 _ _ rfl (by decide))

set_option maxRecDepth 100000 in
set_option maxHeartbeats 8000000 in
theorem inline_any (bp : Nat) (p : PSt) (s : ByteArray) (w : World) (hp : PsAt w bp p) (hs : s.size ≤ 900000) (h0 : 0 < s.size) (all : List Pc) (hg : Plan s 0 0 all) (hO : Opt w p 3 false) (hpb : p.parser ≠ bp)
    (hT : Calls Tryz.prog 74 #[.string s] w fun e w' => e = .returned (.string s) ∧ w = w') :
    Calls Tryz.prog 66 #[.pointer (some ⟨bp, 0, none⟩), .string s] w fun e w' => ∃ g n cap xs, e = .returned (.slice (some ⟨g, 0, none⟩) n cap) ∧ 0 < n ∧ n ≤ s.size + 1 ∧ ∃ c, Held w w' bp { p with corner := c } s s.size n (.slice (some ⟨g, 0, none⟩) n cap) xs all := by
  have hl := hp.lt
  have f7 := hp.fr 7
  have f8 := hp.fr 8
  have f9 := hp.fr 9
  have k7 := hp.s
  have k8 := hp.emitted
  have k9 := hp.list
  go_enter Tryz.func66, Tryz.ntmps66
  go_wp2_with fail
  refine hT.mono ?_
  rintro e w' ⟨rfl, rfl⟩
  go_wp2_with fail
  generalize hW : (World.setCell _ _ _ : World) = W
  have hne := plan_ne hg h0
  have hno := plan_alt hg
  have hG : Going w W bp p s all 0 := by
    subst hW
    refine ⟨Nat.zero_le _, p.corner, 0, 0, .slice none 0 0, [], [], all, Nat.le_refl _, Nat.le_refl _, ⟨?_, ?_, ⟨rfl, Or.inl ⟨rfl, rfl⟩⟩, trivial, (fun _ h => by cases h)⟩, hg, rfl⟩
    · exact (((Mods.refl (fun b => b = bp) w).setCell (p := ⟨bp, 7, none⟩) (fun _ => rfl) _).setCell (p := ⟨bp, 9, none⟩) (fun _ => rfl) _).setCell (p := ⟨bp, 8, none⟩) (fun _ => rfl) _
    · exact ((hp.set 7 _ { p with s := s } rfl (by decide)).set 9 _ { p with s := s, list := .slice none 0 0 } rfl (by decide)).set 8 _ _ rfl (by decide)
  clear hW hT hg f7 f8 f9 k7 k8 k9 hl
  refine wp_loop_ghost_k (fun m a wr => ∃ (k : Nat) (v : Nat → Value), (m = s.size - k ∧ Going w wr bp p s all k) ∧
    a = ⟨#[.pointer (some ⟨bp, 0, none⟩), .string s, undef, undef, .slice none 0 0, .slice none 0 0, .int .i64 0, .bool false, .int .i64 k, v 9, v 10, v 11, v 12, v 13, v 14, v 15, v 16, v 17, v 18, v 19, v 20, .string s, .string s, .pointer (some ⟨bp, 0, none⟩), .string s, .pointer (some ⟨bp, 0, none⟩), .pointer (some ⟨bp, 7, none⟩), .pointer (some ⟨bp, 0, none⟩), .pointer (some ⟨bp, 0, none⟩), .pointer (some ⟨bp, 9, none⟩), .pointer (some ⟨bp, 0, none⟩), .pointer (some ⟨bp, 0, none⟩), .pointer (some ⟨bp, 8, none⟩), v 33, v 34, v 35, v 36, v 37, v 38, v 39, v 40, v 41, v 42, v 43, v 44, v 45, v 46, v 47, v 48, v 49, v 50, v 51, v 52, v 53, v 54, v 55, v 56, v 57, v 58, v 59, v 60, v 61, v 62, v 63, v 64, v 65, v 66, v 67, v 68, v 69, v 70, v 71, v 72, v 73, v 74, v 75, v 76, v 77, v 78, v 79, v 80, v 81, v 82, v 83, v 84, v 85, v 86, v 87, v 88, v 89, v 90, v 91, v 92, v 93, v 94, v 95, v 96, v 97, v 98, v 99, v 100, v 101, v 102, v 103, v 104, v 105, v 106, v 107, v 108, v 109, v 110, v 111, v 112, v 113, v 114, v 115, v 116, v 117, v 118, v 119, v 120, v 121, v 122, v 123, v 124, v 125, v 126, v 127, v 128, v 129, v 130, v 131, v 132, v 133, v 134, v 135, v 136, v 137, v 138, v 139, v 140, v 141, v 142, v 143, v 144, v 145, v 146, v 147, v 148, v 149, v 150, v 151, v 152, v 153, v 154, v 155, v 156, v 157, v 158, v 159, v 160, v 161, v 162, v 163, v 164, v 165, v 166, v 167, v 168, v 169, v 170, v 171, v 172, v 173, v 174, v 175, v 176, v 177, v 178, v 179, v 180, v 181, v 182, v 183, v 184, v 185, v 186, v 187, v 188, v 189, v 190, v 191, v 192, v 193, v 194, v 195, v 196, v 197, v 198, v 199, v 200, v 201, v 202, v 203, v 204, v 205, v 206, v 207, v 208, v 209, v 210, v 211, v 212, v 213, v 214, v 215, v 216, v 217, v 218, v 219, v 220, v 221, v 222, v 223, v 224, v 225, v 226, v 227, v 228, v 229, v 230, v 231, v 232, v 233, v 234, v 235, v 236, v 237, v 238, v 239, v 240, v 241, v 242, v 243, v 244, v 245, v 246, v 247, v 248, v 249, v 250, v 251, v 252, v 253, v 254, v 255, v 256, v 257, v 258, v 259, v 260, v 261, v 262, v 263, v 264, v 265, v 266, v 267, v 268, v 269, v 270, v 271, v 272, v 273, v 274, v 275, v 276, v 277, v 278, v 279, v 280, v 281, v 282, v 283, v 284, v 285, v 286, v 287, v 288, v 289, v 290, v 291, v 292, v 293, v 294, v 295, v 296, v 297, v 298, v 299, v 300, v 301, v 302, v 303, v 304, v 305, v 306, v 307, v 308, v 309, v 310, v 311, v 312, v 313, v 314, v 315, v 316, v 317, v 318, v 319, v 320, v 321, v 322, v 323, v 324, v 325, v 326, v 327, v 328, v 329, v 330, v 331, v 332, v 333, v 334], []⟩) s.size ⟨0, fun _ => undef, ⟨rfl, hG⟩, rfl⟩ ?_
  · intro gk a wr hinv
    obtain ⟨k, v, ⟨rfl, hG⟩, rfl⟩ := hinv
    intro J K hJ hK
    have HNE := Lib.hid hne
    have HNO := Lib.hid hno
    clear hne hno
    obtain ⟨hle, c0, e, n, lv, xs, pcs, r, he, hn, hh, hpl, hsc⟩ := hG
    rcases plan_cases hpl with ⟨hk, hd, hp2⟩ | ⟨hk, fn, pc, st, en, r', hb, h1, h2, h3, h4, hcall, hp2, hr⟩ | hk
    · have w1 : (k : Int) < s.size := by omega
      have w2 : (0 : Int) ≤ k := by omega
      have w3 : IntKind.i64.wrap ((k : Int) + 1) = (k : Int) + 1 := IntWalk.i64_in _ (by omega)
      have d1 : ((s[k].toNat : Int) == 92) = false := dull_ne hd 92 rfl
      have d2 : ((s[k].toNat : Int) == 96) = false := dull_ne hd 96 rfl
      have d3 : ((s[k].toNat : Int) == 60) = false := dull_ne hd 60 rfl
      have d4 : ((s[k].toNat : Int) == 91) = false := dull_ne hd 91 rfl
      have d5 : ((s[k].toNat : Int) == 33) = false := dull_ne hd 33 rfl
      have d6 : ((s[k].toNat : Int) == 95) = false := dull_ne hd 95 rfl
      have d7 : ((s[k].toNat : Int) == 42) = false := dull_ne hd 42 rfl
      have d8 : ((s[k].toNat : Int) == 46) = false := dull_ne hd 46 rfl
      have d9 : ((s[k].toNat : Int) == 45) = false := dull_ne hd 45 rfl
      have d10 : ((s[k].toNat : Int) == 34) = false := dull_ne hd 34 rfl
      have d11 : ((s[k].toNat : Int) == 39) = false := dull_ne hd 39 rfl
      have d12 : ((s[k].toNat : Int) == 126) = false := dull_ne hd 126 rfl
      have d13 : ((s[k].toNat : Int) == 10) = false := dull_ne hd 10 rfl
      have d14 : ((s[k].toNat : Int) == 38) = false := dull_ne hd 38 rfl
      have d15 : ((s[k].toNat : Int) == 58) = false := dull_ne hd 58 rfl
      have hG2 : Going w wr bp p s all (k + 1) := ⟨hk, c0, e, n, lv, xs, pcs, r, by omega, hn, hh, hp2, hsc⟩
      have HG2 := Lib.hid hG2
      have hE := eql_nil_nil
      clear hG2 hd hp2 hpl hsc hh
      go_wp2_with fail
      all_goals
        exact Handed.intro (s.size - (k + 1)) (by omega) (hJ _ _ _ ⟨k + 1, (fun d => cond (Nat.ble 9 d && Nat.ble d 15) (List.getD [_, _, _, _, _, _, _] (d - 9) undef) (cond (Nat.ble 33 d && Nat.ble d 165) (cond (Nat.ble d 96) (cond (Nat.ble d 64) (cond (Nat.ble d 48) (List.getD [_, _, _, _, _, _, _, _, _, _, _, _, _, _, _, _] (d - 33) undef) (List.getD [_, _, _, _, _, _, _, _, _, _, _, _, _, _, _, _] (d - 49) undef)) (cond (Nat.ble d 80) (List.getD [_, _, _, _, _, _, _, _, _, _, _, _, _, _, _, _] (d - 65) undef) (List.getD [_, _, _, _, _, _, _, _, _, _, _, _, _, _, _, _] (d - 81) undef))) (cond (Nat.ble d 128) (cond (Nat.ble d 112) (List.getD [_, _, _, _, _, _, _, _, _, _, _, _, _, _, _, _] (d - 97) undef) (List.getD [_, _, _, _, _, _, _, _, _, _, _, _, _, _, _, _] (d - 113) undef)) (cond (Nat.ble d 144) (List.getD [_, _, _, _, _, _, _, _, _, _, _, _, _, _, _, _] (d - 129) undef) (cond (Nat.ble d 160) (List.getD [_, _, _, _, _, _, _, _, _, _, _, _, _, _, _, _] (d - 145) undef) (List.getD [_, _, _, _, _] (d - 161) undef))))) (cond (Nat.ble 293 d && Nat.ble d 294) (List.getD [_, _] (d - 293) undef) (v d)))), ⟨rfl, HG2.out⟩, rfl⟩)
    · have w1 : (k : Int) < s.size := by omega
      have w2 : (0 : Int) ≤ k := by omega
      have HSC := Lib.hid hsc
      have HR := Lib.hid hr
      have HP2 := Lib.hid hp2
      have HCALL := Lib.hid hcall
      have HB := pc.bty_is
      clear hsc hr hp2 hcall hpl
      have hE := eql_func_nil
      have hO := as_openPlain_no pc
      rcases hb with ⟨hc, rfl⟩ | ⟨hc, rfl⟩ | ⟨hc, rfl⟩
      · have d1 : ((s[k].toNat : Int) == 92) = true := by rw [hc]; rfl
        clear hc
        go_wp2_with fail
        refine (HCALL.out bp _ wr hh.at_).mono ?_
        rintro e' wA ⟨b, c1, rfl, hmA, hpA, hbn, hbA⟩
        have hhA : Held w wA bp { p with corner := c1 } s e n lv xs pcs := hh.cornered hmA hpA
        clear hmA hpA hh
        go_wp2_with fail
        refine (emit_held hhA st h1 (by omega) (by omega) (by omega)).mono ?_
        rintro e' wB ⟨rfl, n', lv', xs', hn', hmB, hB⟩
        have hbB := hbA.keep hmB (pcs_safe hhA.at_ hhA.row b _ _ hbA HB)
        have hnn : n' ≤ st ∨ n' = n := by
          have e1 := hB.pcs.length
          have e2 := hB.row.1
          have e3 := hhA.pcs.length
          have e4 := hhA.row.1
          rw [List.length_append] at e1
          by_cases hlt : e < st
          · left; omega
          · rw [if_neg hlt] at e1
            right
            simp at e1
            omega
        have k9 := hB.at_.list
        have hl9 := hB.at_.lt
        clear hmB hbA hhA
        go_wp2_with (at_builtin; refine ap_inl rfl (.tmp 147) (.tmp 149) rfl lv' n' xs' rfl (hB.row.alloc _) wB.heap.size 1 _ (.pointer (some ⟨b, 0, none⟩)) rfl ((Blk.newAt _ _ rfl).cell 0) (by omega) ?_)
        intro g cap wC hown1 hgrow hloc
        obtain ⟨k9', f9', hl9'⟩ := hB.push_at hgrow
        have hP := hB.push hown1 hgrow hloc hbB
        clear hgrow hloc hown1 k9 hl9
        go_wp2_with fail
        refine (skip_any bp _ _ _ hP.at_).mono ?_
        rintro e' wD ⟨rfl, hmD, hpD⟩
        go_wp2_with fail
        exact Handed.intro (s.size - en) (by omega) (hJ _ _ _ ⟨en, (fun d => cond (Nat.ble 9 d && Nat.ble d 15) (List.getD [_, _, _, _, _, _, _] (d - 9) undef) (cond (Nat.ble 33 d && Nat.ble d 165) (cond (Nat.ble d 96) (cond (Nat.ble d 64) (cond (Nat.ble d 48) (List.getD [_, _, _, _, _, _, _, _, _, _, _, _, _, _, _, _] (d - 33) undef) (List.getD [_, _, _, _, _, _, _, _, _, _, _, _, _, _, _, _] (d - 49) undef)) (cond (Nat.ble d 80) (List.getD [_, _, _, _, _, _, _, _, _, _, _, _, _, _, _, _] (d - 65) undef) (List.getD [_, _, _, _, _, _, _, _, _, _, _, _, _, _, _, _] (d - 81) undef))) (cond (Nat.ble d 128) (cond (Nat.ble d 112) (List.getD [_, _, _, _, _, _, _, _, _, _, _, _, _, _, _, _] (d - 97) undef) (List.getD [_, _, _, _, _, _, _, _, _, _, _, _, _, _, _, _] (d - 113) undef)) (cond (Nat.ble d 144) (List.getD [_, _, _, _, _, _, _, _, _, _, _, _, _, _, _, _] (d - 129) undef) (cond (Nat.ble d 160) (List.getD [_, _, _, _, _, _, _, _, _, _, _, _, _, _, _, _] (d - 145) undef) (List.getD [_, _, _, _, _] (d - 161) undef))))) (cond (Nat.ble 293 d && Nat.ble d 294) (List.getD [_, _] (d - 293) undef) (v d)))), ⟨rfl, h4, c1, en, n' + 1, _, _, _, r', Nat.le_refl _, by omega, hP.skipped hmD hpD, HP2.out, by rw [← HSC.out, HR.out]; simp⟩, rfl⟩)
      · have d1 : ((s[k].toNat : Int) == 92) = false := by rw [hc]; rfl
        have d2 : ((s[k].toNat : Int) == 96) = false := by rw [hc]; rfl
        have d3 : ((s[k].toNat : Int) == 60) = true := by rw [hc]; rfl
        clear hc
        go_wp2_with fail
        refine (HCALL.out bp _ wr hh.at_).mono ?_
        rintro e' wA ⟨b, c1, rfl, hmA, hpA, hbn, hbA⟩
        have hhA : Held w wA bp { p with corner := c1 } s e n lv xs pcs := hh.cornered hmA hpA
        clear hmA hpA hh
        go_wp2_with fail
        refine (emit_held hhA st h1 (by omega) (by omega) (by omega)).mono ?_
        rintro e' wB ⟨rfl, n', lv', xs', hn', hmB, hB⟩
        have hbB := hbA.keep hmB (pcs_safe hhA.at_ hhA.row b _ _ hbA HB)
        have hnn : n' ≤ st ∨ n' = n := by
          have e1 := hB.pcs.length
          have e2 := hB.row.1
          have e3 := hhA.pcs.length
          have e4 := hhA.row.1
          rw [List.length_append] at e1
          by_cases hlt : e < st
          · left; omega
          · rw [if_neg hlt] at e1
            right
            simp at e1
            omega
        have k9 := hB.at_.list
        have hl9 := hB.at_.lt
        clear hmB hbA hhA
        go_wp2_with (at_builtin; refine ap_inl rfl (.tmp 147) (.tmp 149) rfl lv' n' xs' rfl (hB.row.alloc _) wB.heap.size 1 _ (.pointer (some ⟨b, 0, none⟩)) rfl ((Blk.newAt _ _ rfl).cell 0) (by omega) ?_)
        intro g cap wC hown1 hgrow hloc
        obtain ⟨k9', f9', hl9'⟩ := hB.push_at hgrow
        have hP := hB.push hown1 hgrow hloc hbB
        clear hgrow hloc hown1 k9 hl9
        go_wp2_with fail
        refine (skip_any bp _ _ _ hP.at_).mono ?_
        rintro e' wD ⟨rfl, hmD, hpD⟩
        go_wp2_with fail
        exact Handed.intro (s.size - en) (by omega) (hJ _ _ _ ⟨en, (fun d => cond (Nat.ble 9 d && Nat.ble d 15) (List.getD [_, _, _, _, _, _, _] (d - 9) undef) (cond (Nat.ble 33 d && Nat.ble d 165) (cond (Nat.ble d 96) (cond (Nat.ble d 64) (cond (Nat.ble d 48) (List.getD [_, _, _, _, _, _, _, _, _, _, _, _, _, _, _, _] (d - 33) undef) (List.getD [_, _, _, _, _, _, _, _, _, _, _, _, _, _, _, _] (d - 49) undef)) (cond (Nat.ble d 80) (List.getD [_, _, _, _, _, _, _, _, _, _, _, _, _, _, _, _] (d - 65) undef) (List.getD [_, _, _, _, _, _, _, _, _, _, _, _, _, _, _, _] (d - 81) undef))) (cond (Nat.ble d 128) (cond (Nat.ble d 112) (List.getD [_, _, _, _, _, _, _, _, _, _, _, _, _, _, _, _] (d - 97) undef) (List.getD [_, _, _, _, _, _, _, _, _, _, _, _, _, _, _, _] (d - 113) undef)) (cond (Nat.ble d 144) (List.getD [_, _, _, _, _, _, _, _, _, _, _, _, _, _, _, _] (d - 129) undef) (cond (Nat.ble d 160) (List.getD [_, _, _, _, _, _, _, _, _, _, _, _, _, _, _, _] (d - 145) undef) (List.getD [_, _, _, _, _] (d - 161) undef))))) (cond (Nat.ble 293 d && Nat.ble d 294) (List.getD [_, _] (d - 293) undef) (v d)))), ⟨rfl, h4, c1, en, n' + 1, _, _, _, r', Nat.le_refl _, by omega, hP.skipped hmD hpD, HP2.out, by rw [← HSC.out, HR.out]; simp⟩, rfl⟩)
      · have d1 : ((s[k].toNat : Int) == 92) = false := by rw [hc]; rfl
        have d2 : ((s[k].toNat : Int) == 96) = false := by rw [hc]; rfl
        have d3 : ((s[k].toNat : Int) == 60) = false := by rw [hc]; rfl
        have d4 : ((s[k].toNat : Int) == 91) = false := by rw [hc]; rfl
        have d5 : ((s[k].toNat : Int) == 33) = false := by rw [hc]; rfl
        have d6 : ((s[k].toNat : Int) == 95) = false := by rw [hc]; rfl
        have d7 : ((s[k].toNat : Int) == 42) = false := by rw [hc]; rfl
        have d8 : ((s[k].toNat : Int) == 46) = false := by rw [hc]; rfl
        have d9 : ((s[k].toNat : Int) == 45) = false := by rw [hc]; rfl
        have d10 : ((s[k].toNat : Int) == 34) = false := by rw [hc]; rfl
        have d11 : ((s[k].toNat : Int) == 39) = false := by rw [hc]; rfl
        have d12 : ((s[k].toNat : Int) == 126) = false := by rw [hc]; rfl
        have d13 : ((s[k].toNat : Int) == 10) = true := by rw [hc]; rfl
        clear hc
        go_wp2_with fail
        refine (HCALL.out bp _ wr hh.at_).mono ?_
        rintro e' wA ⟨b, c1, rfl, hmA, hpA, hbn, hbA⟩
        have hhA : Held w wA bp { p with corner := c1 } s e n lv xs pcs := hh.cornered hmA hpA
        clear hmA hpA hh
        go_wp2_with fail
        refine (emit_held hhA st h1 (by omega) (by omega) (by omega)).mono ?_
        rintro e' wB ⟨rfl, n', lv', xs', hn', hmB, hB⟩
        have hbB := hbA.keep hmB (pcs_safe hhA.at_ hhA.row b _ _ hbA HB)
        have hnn : n' ≤ st ∨ n' = n := by
          have e1 := hB.pcs.length
          have e2 := hB.row.1
          have e3 := hhA.pcs.length
          have e4 := hhA.row.1
          rw [List.length_append] at e1
          by_cases hlt : e < st
          · left; omega
          · rw [if_neg hlt] at e1
            right
            simp at e1
            omega
        have k9 := hB.at_.list
        have hl9 := hB.at_.lt
        clear hmB hbA hhA
        go_wp2_with (at_builtin; refine ap_inl rfl (.tmp 147) (.tmp 149) rfl lv' n' xs' rfl (hB.row.alloc _) wB.heap.size 1 _ (.pointer (some ⟨b, 0, none⟩)) rfl ((Blk.newAt _ _ rfl).cell 0) (by omega) ?_)
        intro g cap wC hown1 hgrow hloc
        obtain ⟨k9', f9', hl9'⟩ := hB.push_at hgrow
        have hP := hB.push hown1 hgrow hloc hbB
        clear hgrow hloc hown1 k9 hl9
        go_wp2_with fail
        refine (skip_any bp _ _ _ hP.at_).mono ?_
        rintro e' wD ⟨rfl, hmD, hpD⟩
        go_wp2_with fail
        exact Handed.intro (s.size - en) (by omega) (hJ _ _ _ ⟨en, (fun d => cond (Nat.ble 9 d && Nat.ble d 15) (List.getD [_, _, _, _, _, _, _] (d - 9) undef) (cond (Nat.ble 33 d && Nat.ble d 165) (cond (Nat.ble d 96) (cond (Nat.ble d 64) (cond (Nat.ble d 48) (List.getD [_, _, _, _, _, _, _, _, _, _, _, _, _, _, _, _] (d - 33) undef) (List.getD [_, _, _, _, _, _, _, _, _, _, _, _, _, _, _, _] (d - 49) undef)) (cond (Nat.ble d 80) (List.getD [_, _, _, _, _, _, _, _, _, _, _, _, _, _, _, _] (d - 65) undef) (List.getD [_, _, _, _, _, _, _, _, _, _, _, _, _, _, _, _] (d - 81) undef))) (cond (Nat.ble d 128) (cond (Nat.ble d 112) (List.getD [_, _, _, _, _, _, _, _, _, _, _, _, _, _, _, _] (d - 97) undef) (List.getD [_, _, _, _, _, _, _, _, _, _, _, _, _, _, _, _] (d - 113) undef)) (cond (Nat.ble d 144) (List.getD [_, _, _, _, _, _, _, _, _, _, _, _, _, _, _, _] (d - 129) undef) (cond (Nat.ble d 160) (List.getD [_, _, _, _, _, _, _, _, _, _, _, _, _, _, _, _] (d - 145) undef) (List.getD [_, _, _, _, _] (d - 161) undef))))) (cond (Nat.ble 293 d && Nat.ble d 294) (List.getD [_, _] (d - 293) undef) (v d)))), ⟨rfl, h4, c1, en, n' + 1, _, _, _, r', Nat.le_refl _, by omega, hP.skipped hmD hpD, HP2.out, by rw [← HSC.out, HR.out]; simp⟩, rfl⟩)
    · have w1 : ¬ ((k : Int) < s.size) := by omega
      have HSC := Lib.hid hsc
      have hend : pcs ++ (if e < s.size then [Pc.plain (s.extract e s.size)] else []) = all := by rw [← hsc]; rw [hk] at hpl; rw [plan_end hpl]
      have HEND := Lib.hid hend
      have HK := Lib.hid hk
      clear hsc hk hpl hend
      go_wp2_with fail
      refine (emit_held hh s.size (by have := HK.out; omega) (Nat.le_refl _) (by omega) (by omega)).mono ?_
      rintro e' wB ⟨rfl, n', lv', xs', hn', hmB, hB⟩
      rw [HEND.out] at hB
      have hn0 : 0 < n' := by
        have h1 := hB.pcs.length
        have h2 := hB.row.1
        have h4 : all.length ≠ 0 := fun h => HNE.out (List.length_eq_zero_iff.1 h)
        omega
      have hnk : n' ≤ s.size + 1 := by have := HK.out; omega
      obtain ⟨gl, cap, rfl, _, _, _⟩ := ownsRow_form hB.row hn0
      have hOB : Opt wB p 3 false := hO.keep hB.mods hpb
      have HE : ∀ W, Same wB W → Calls Tryz.prog 91 #[.pointer (some ⟨bp, 0, none⟩), .slice (some ⟨gl, 0, none⟩) 0 cap, .slice (some ⟨gl, 0, none⟩) n' cap] W fun e W' => e = .returned (.slice (some ⟨gl, 0, none⟩) n' cap) ∧ Same wB W' ∧
          W'.cell? ⟨bp, 9, none⟩ = some (.slice (some ⟨gl, 0, none⟩) n' cap) ∧ W'.frozen? ⟨bp, 9, none⟩ = false ∧ bp < W'.heap.size := fun W hW =>
        (emph_id _ gl n' cap xs' _ W (hB.same hW).row (hB.same hW).pcs (by omega)).mono fun e W' ⟨h1, h2⟩ =>
          ⟨h1, hW.trans h2, (hB.same (hW.trans h2)).at_.list, (hB.same (hW.trans h2)).at_.fr 9, (hB.same (hW.trans h2)).at_.lt⟩
      have k9 := hB.at_.list
      have f9 := hB.at_.fr 9
      have hl9 := hB.at_.lt
      have hcap : (0 : Int) ≤ cap := by omega
      have hS0 : Same wB wB := Mods.refl _ _
      go_wp2_with fail
      go_region_with ((go_at_call 91; refine (HE _ (by repeat (first | assumption | apply Mods.drew))).mono ?_; rintro e' wC ⟨rfl, hmC, k9', f9', hl9'⟩))
      all_goals
        have hC := hB.again hmC
        generalize (World.setCell wC _ _ : World) = wD at hC ⊢
        clear k9' f9' hl9' k9 f9 hl9
        have k9 := hC.at_.list
        have f9 := hC.at_.fr 9
        have hl9 := hC.at_.lt
        go_wp2_with fail
        refine (mergePlain_id _ gl n' cap xs' _ wD hC.row hC.pcs HNO.out (by omega)).mono ?_
        rintro e' wE ⟨rfl, hmE⟩
        have hE2 := hC.same hmE
        clear k9 f9 hl9
        have k9 := hE2.at_.list
        have f9 := hE2.at_.fr 9
        have hl9 := hE2.at_.lt
        go_wp2_with fail
        have hF := hC.again hmE
        generalize (World.setCell wE _ _ : World) = wF at hF ⊢
        have hOF : Opt wF p 3 false := hO.keep hF.mods hpb
        refine (autoLinkText_off bp _ _ wF hF.at_ hOF).mono ?_
        rintro e' wG ⟨rfl, rfl⟩
        clear k9 f9 hl9
        have k9 := hF.at_.list
        have f9 := hF.at_.fr 9
        have hl9 := hF.at_.lt
        go_wp2_with fail
        go_ret
        exact ⟨gl, n', cap, xs', rfl, hn0, hnk, c0, hF.again (Mods.refl _ _)⟩
end Go.Proofs.YtdnlfdppjfjncaaGreatDoor
