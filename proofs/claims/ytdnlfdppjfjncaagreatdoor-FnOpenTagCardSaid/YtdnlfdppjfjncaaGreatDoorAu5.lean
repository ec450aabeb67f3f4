/- Some texts of one proof, put into one file: Search, Inl, Esc, Inline, Merge, Merge2. -/
import Derived.Deep.RegionLaw
import Derived.Test.YtdnlfdppjfjncaaGreatDoorAu4
/- zzIndex, zzContains for one byte; strings.Join of one string. -/
namespace Go.Proofs.YtdnlfdppjfjncaaGreatDoor
open Go Go.RowKit Go.Proofs

/-- The first place from i on where c stands; the length when there is none. -/
def fst1 (s : ByteArray) (c : UInt8) (i : Nat) : Nat := if h : i < s.size then (if s[i] = c then i else fst1 s c (i + 1)) else s.size
termination_by s.size - i

/-- The answer of zzIndex. -/
def idx1 (s : ByteArray) (c : UInt8) : Int := if fst1 s c 0 < s.size then (fst1 s c 0 : Nat) else -1

theorem fst1_le (s : ByteArray) (c : UInt8) (i : Nat) (hi : i ≤ s.size) : i ≤ fst1 s c i ∧ fst1 s c i ≤ s.size := by
  rw [fst1]
  split
  · split
    · omega
    · have := fst1_le s c (i + 1) (by omega); omega
  · omega
termination_by s.size - i

theorem fst1_none (s : ByteArray) (c : UInt8) (h : ∀ i (hi : i < s.size), s[i] ≠ c) (i : Nat) (_hi : i ≤ s.size) : fst1 s c i = s.size := by
  rw [fst1]
  split
  · rename_i hlt
    rw [if_neg (h i hlt)]
    exact fst1_none s c h (i + 1) (by omega)
  · rfl
termination_by s.size - i

theorem idx1_none {s : ByteArray} {c : UInt8} (h : ∀ i (hi : i < s.size), s[i] ≠ c) : idx1 s c = -1 := by
  unfold idx1
  rw [fst1_none s c h 0 (Nat.zero_le _), if_neg (Nat.lt_irrefl _)]

theorem ext1 (s : ByteArray) (k : Nat) (hk : k < s.size) : s.extract k (k + 1) = ⟨#[s[k]]⟩ := by
  have h0 : (⟨#[s[k]]⟩ : ByteArray).size = 1 := rfl
  have h1 : (s.extract k (k + 1)).size = 1 := by rw [ByteArray.size_extract]; omega
  apply ByteArray.ext_getElem
  · rw [h0, h1]
  · intro i hi1 hi2
    have : i = 0 := by omega
    subst this
    rw [ByteArray.getElem_extract]
    rfl

set_option maxHeartbeats 1000000 in
theorem zzIndex_any (s : ByteArray) (c : UInt8) (w : World) (hs : s.size ≤ 1000000) :
    Calls Tryz.prog 63 #[.string s, .string ⟨#[c]⟩] w fun e w' => e = .returned (.int .i64 (idx1 s c)) ∧ w = w' := by
  go_enter Tryz.func63, Tryz.ntmps63
  go_wp2
  go_loop [5] (fun i => ∃ k : Nat, i = .int .i64 k ∧ k ≤ s.size ∧ fst1 s c k = fst1 s c 0) (fun i => s.size - (intOf i).toNat)
  case atStart => exact ⟨0, rfl, Nat.zero_le _, rfl⟩
  case round =>
    obtain ⟨k, rfl, hk, hw⟩ := hrel
    have HW := Lib.hid hw
    clear hw
    have w1 : IntKind.i64.wrap ((k : Int) + 1) = (k : Int) + 1 := IntWalk.i64_in _ (by omega)
    have hz : (⟨#[c]⟩ : ByteArray).size = 1 := rfl
    by_cases hlt : k < s.size
    · have hle : (k : Int) + 1 ≤ s.size := by omega
      have h0 : (0 : Int) ≤ k := by omega
      have h2 : (k : Int) ≤ k + 1 := by omega
      have h3 : ((k : Int) + 1).toNat = k + 1 := by omega
      have he := ext1 s k hlt
      have hun : fst1 s c k = if s[k] = c then k else fst1 s c (k + 1) := by rw [fst1, dif_pos hlt]
      have HU := Lib.hid hun
      clear hun
      by_cases hc : s[k] = c
      · have hcb : (s[k] == c) = true := by simpa using hc
        have HC := Lib.hid hc
        clear hc
        go_wp2_with fail
        go_ret
        have : fst1 s c 0 = k := by rw [← HW.out, HU.out, if_pos HC.out]
        unfold idx1
        rw [this, if_pos hlt]
        exact ⟨rfl, rfl⟩
      · have hcb : (s[k] == c) = false := by simpa using hc
        have HC := Lib.hid hc
        clear hc
        go_wp2_with fail
        refine ⟨⟨k + 1, by simp, by omega, ?_⟩, ?_⟩
        · rw [← HW.out, HU.out, if_neg HC.out]
        · simp only [intOf]; omega
    · have hle : ¬ ((k : Int) + 1 ≤ s.size) := by omega
      go_wp2_with fail
      go_ret
      have hk' : k = s.size := by omega
      have h0 : fst1 s c 0 = s.size := by rw [← HW.out, hk', fst1, dif_neg (Nat.lt_irrefl _)]
      unfold idx1
      rw [h0, if_neg (Nat.lt_irrefl _)]
      exact ⟨rfl, rfl⟩

theorem zzContains_any (s : ByteArray) (c : UInt8) (w : World) (hs : s.size ≤ 1000000) :
    Calls Tryz.prog 60 #[.string s, .string ⟨#[c]⟩] w fun e w' => e = .returned (.bool (decide (0 ≤ idx1 s c))) ∧ w = w' := by
  go_enter Tryz.func60, Tryz.ntmps60
  go_wp2_with fail
  refine (zzIndex_any s c w hs).mono ?_
  rintro e w' ⟨rfl, rfl⟩
  go_wp2
  go_ret
  exact ⟨rfl, rfl⟩

/-- Join of one string. -/
theorem join_one (g cap : Nat) (s sep : ByteArray) (w : World) (h : w.cell? ⟨g, 0, none⟩ = some (.string s)) :
    Calls Tryz.prog 29 #[.slice (some ⟨g, 0, none⟩) 1 cap, .string sep] w fun e w' => e = .returned (.string s) ∧ w = w' := by
  go_enter Tryz.func29, Tryz.ntmps29
  go_wp2_with fail
  try rw [Exit.noGoto_ret]
  go_ret
  exact ⟨rfl, rfl⟩
end Go.Proofs.YtdnlfdppjfjncaaGreatDoor

/- emit, skip, parseEscape: the pieces of a line. -/
namespace Go.Proofs.YtdnlfdppjfjncaaGreatDoor
open Go Go.RowKit Go.Proofs

theorem st1 {P : Program} {w : World} {ops : Array Oper} {o : Oper} {a : Act} {K : Act → World → Prop} {Q : Exit → Act → World → Prop} {E : Prop} (hgd : o.guard = none) (s x : Operand) (t e size bytes : Nat)
    (ho : o.op = .call { callee := .builtin .append, args := #[s, x], argTypes := #[t, t] }) (z : Value)
    (ht : P.underlying t = some (.slice e)) (hi : (P.info? e).map (fun i => (i.zero, i.size, i.bytes)) = some (some z, size, bytes)) (hzs : z.cells.size = size) (hsz : 0 < size) (hby : bytes ≤ 100)
    (v : Value) (n : Nat) (xs : List Value) (hs : a.eval s = v) (hown : w.ownsRow 0 e size v n xs)
    (b c : Nat) (news : List Value) (hx : a.eval x = .slice (some ⟨b, 0, none⟩) 1 c) (hl : news.length = size) (hnews : ∀ j u, news[j]? = some u → w.cell? ⟨b, j, none⟩ = some u)
    (h1 : ∀ u ∈ news, u.oneCell' = true) (hn : n ≤ 1000000)
    (h : ∀ g cap w', w'.ownsRow 0 e size (.slice (some ⟨g, 0, none⟩) (n + 1) cap) (n + 1) (xs ++ news) → w.grownBy w' v.ownBlock → (v.ownBlock = some g ∨ g = w.heap.size) → K (a.put o.dst (.slice (some ⟨g, 0, none⟩) (n + 1) cap)) w') :
    if Region.wanted o (yielded ops a.tmps) = true then Oper.wp P o a w K Q else E := by
  obtain ⟨i0, hi0, hz⟩ := Option.map_eq_some_iff.1 hi
  simp only [Prod.mk.injEq] at hz
  obtain ⟨hz0, hz1, hz2⟩ := hz
  refine step_append_lies w hgd s x t ho 0 e i0 z size bytes ht hi0 hz0 hz1 hz2 hzs hsz v n xs hs hown ⟨b, 0, none⟩ 1 c news hx (by omega) ?_ h1 (by omega) (by unfold maxLen; omega) ?_ (Nat.zero_le _) _ rfl (fun g cap w' h2 h3 h4 _ => h g cap w' h2 h3 h4)
  · intro j u hu
    have := hnews j u hu
    simpa [Addr.add_lit] using this
  · have : (n + 1) * bytes ≤ 1000001 * 100 := Nat.mul_le_mul (by omega) hby
    omega

theorem st_inl {w : World} {ops : Array Oper} {o : Oper} {a : Act} {K : Act → World → Prop} {Q : Exit → Act → World → Prop} {E : Prop} (hgd : o.guard = none) (s x : Operand) (ho : o.op = .call { callee := .builtin .append, args := #[s, x], argTypes := #[88, 88] })
    (v : Value) (n : Nat) (xs : List Value) (hs : a.eval s = v) (hown : w.ownsRow 0 132 1 v n xs)
    (b c T : Nat) (u : Value) (hx : a.eval x = .slice (some ⟨b, 0, none⟩) 1 c) (hu : w.cell? ⟨b, 0, none⟩ = some (.iface T u)) (hn : n ≤ 1000000)
    (h : ∀ g cap w', w'.ownsRow 0 132 1 (.slice (some ⟨g, 0, none⟩) (n + 1) cap) (n + 1) (xs ++ [.iface T u]) → w.grownBy w' v.ownBlock → (v.ownBlock = some g ∨ g = w.heap.size) → K (a.put o.dst (.slice (some ⟨g, 0, none⟩) (n + 1) cap)) w') :
    if Region.wanted o (yielded ops a.tmps) = true then Oper.wp Tryz.prog o a w K Q else E :=
  st1 hgd s x 88 132 1 16 ho .nilIface Tryz.underlying88 (by kernel_rfl) rfl (by decide) (by decide) v n xs hs hown b c [.iface T u] hx rfl
    (fun j y hy => by cases j with
      | zero => simp at hy; subst hy; exact hu
      | succ j => simp at hy) (fun y hy => by simp at hy; subst hy; rfl) hn h

/-- What emit leaves where there is something to emit. -/
structure Emitted (w w' : World) (bp : Nat) (p : PSt) (n : Nat) (xs : List Value) (i : Nat) (s : ByteArray) : Prop where
  mods : Mods (fun k => k = bp ∨ p.list.ownBlock = some k) w w'
  ex : ∃ g cap b, PsAt w' bp { p with list := .slice (some ⟨g, 0, none⟩) (n + 1) cap, emitted := i } ∧
    w'.ownsRow 0 132 1 (.slice (some ⟨g, 0, none⟩) (n + 1) cap) (n + 1) (xs ++ [.iface 156 (.pointer (some ⟨b, 0, none⟩))]) ∧
    Blk w' b #[.string s] 137 ∧ w.heap.size ≤ b ∧ (p.list.ownBlock = some g ∨ w.heap.size ≤ g)

theorem emit_none (bp : Nat) (p : PSt) (e i : Int) (w : World) (hp : PsAt w bp p) (he : p.emitted = e) (hi : ¬ e < i) :
    Calls Tryz.prog 87 #[.pointer (some ⟨bp, 0, none⟩), .int .i64 i] w fun e' w' => e' = .returned (.tuple #[]) ∧ w = w' := by
  have k8 := hp.emitted
  rw [he] at k8
  go_enter Tryz.func87, Tryz.ntmps87
  go_wp2
  go_end0
  exact ⟨rfl, rfl⟩

theorem skip_any (bp : Nat) (p : PSt) (i : Int) (w : World) (hp : PsAt w bp p) :
    Calls Tryz.prog 88 #[.pointer (some ⟨bp, 0, none⟩), .int .i64 i] w fun e' w' => e' = .returned (.tuple #[]) ∧ Mods (fun k => k = bp) w w' ∧ PsAt w' bp { p with emitted := i } := by
  have k8 := hp.emitted
  have f8 := hp.fr 8
  have hl := hp.lt
  go_enter Tryz.func88, Tryz.ntmps88
  go_wp2
  go_end0
  exact ⟨rfl, (Mods.refl (fun k => k = bp) w).setCell (p := ⟨bp, 8, none⟩) (fun _ => rfl) _, hp.set 8 _ _ rfl (by decide)⟩

theorem emit_facts (bp n : Nat) (p : PSt) (xs : List Value) (v : Value) (cs : Array Value) (w w1 : World) {o : Obj} (hp : PsAt w bp p) (hL : p.list = v) (hown : w.ownsRow 0 132 1 v n xs)
    (hgrow : (((w.alloc (.cells cs 137)).alloc o).drew).grownBy w1 v.ownBlock) :
    PsAt w1 bp p ∧ Mods (fun k => k = bp ∨ v.ownBlock = some k) w w1 ∧ Blk w1 w.heap.size cs 137 ∧
      w1.cell? ⟨bp, 9, none⟩ = some v ∧ w1.cell? ⟨bp, 8, none⟩ = some (.int .i64 p.emitted) ∧ w1.frozen? ⟨bp, 9, none⟩ = false ∧ w1.frozen? ⟨bp, 8, none⟩ = false ∧ bp < w1.heap.size := by
  have hS : Same w (((w.alloc (.cells cs 137)).alloc o).drew) := (((Mods.refl (fun _ => False) w).alloc _).alloc o).drew
  have hnb : v.ownBlock ≠ some bp := fun h => own_ne_ps hown hp (by decide) h
  have hmA := grown_mods hgrow
  have hp1 := (hp.same hS).keep hmA hnb
  refine ⟨hp1, ?_, ?_, by rw [hp1.list, hL], hp1.emitted, hp1.fr 9, hp1.fr 8, hp1.lt⟩
  · exact (hS.mono (S' := fun k => k = bp ∨ v.ownBlock = some k) (fun _ _ h => absurd h (fun x => x))).then hmA (fun _ _ h => Or.inr h)
  · refine (Blk.drew (Blk.alloc (Blk.newAt (w := w) (n := w.heap.size) cs 137 rfl) o)).keep hmA (fun h => ?_)
    have := (hown.lt _ h).2
    omega

theorem Emitted.mk' {w w1 : World} {bp n g cap i : Nat} {p : PSt} {xs : List Value} {v : Value} {s : ByteArray} (hL : p.list = v) (hp1 : PsAt w1 bp p) (hm1 : Mods (fun k => k = bp ∨ v.ownBlock = some k) w w1) (hT : Blk w1 w.heap.size #[.string s] 137)
    (hown1 : w1.ownsRow 0 132 1 (.slice (some ⟨g, 0, none⟩) (n + 1) cap) (n + 1) (xs ++ [.iface 156 (.pointer (some ⟨w.heap.size, 0, none⟩))])) (hloc : v.ownBlock = some g ∨ w.heap.size ≤ g) :
    Emitted w ((w1.setCell ⟨bp, 9, none⟩ (.slice (some ⟨g, 0, none⟩) (n + 1) cap)).setCell ⟨bp, 8, none⟩ (.int .i64 i)) bp p n xs i s := by
  have hm2 : Mods (fun k => k = bp) w1 ((w1.setCell ⟨bp, 9, none⟩ (.slice (some ⟨g, 0, none⟩) (n + 1) cap)).setCell ⟨bp, 8, none⟩ (.int .i64 i)) :=
    ((Mods.refl (fun k => k = bp) w1).setCell (p := ⟨bp, 9, none⟩) (fun _ => rfl) _).setCell (p := ⟨bp, 8, none⟩) (fun _ => rfl) _
  have hne : w.heap.size ≠ bp := by
    obtain ⟨tail, htl⟩ := id hp1
    exact hT.ne_of_type htl (by decide)
  refine ⟨?_, g, cap, w.heap.size, ?_, ?_, hT.keep1 hm2 hne, Nat.le_refl _, by rw [hL]; exact hloc⟩
  · rw [hL]
    exact hm1.then hm2 (fun _ _ h => Or.inl h)
  · exact (hp1.set 9 _ { p with list := .slice (some ⟨g, 0, none⟩) (n + 1) cap } rfl (by decide)).set 8 _ _ rfl (by decide)
  · exact ownsRow_keep hown1 hm2 (fun k hk he => own_ne_ps hown1 hp1 (by decide) (by rw [← he]; exact hk))

set_option maxHeartbeats 4000000 in
theorem emit_some (bp n : Nat) (p : PSt) (xs : List Value) (e i : Nat) (w : World) (hp : PsAt w bp p) (he : p.emitted = e) (hi : e < i) (hs : i ≤ p.s.size) (_hs6 : p.s.size ≤ 1000000)
    (hown : w.ownsRow 0 132 1 p.list n xs) (hn : n ≤ 1000000) :
    Calls Tryz.prog 87 #[.pointer (some ⟨bp, 0, none⟩), .int .i64 i] w fun e' w' => e' = .returned (.tuple #[]) ∧ Emitted w w' bp p n xs i (p.s.extract e i) := by
  have k8 := hp.emitted
  have k7 := hp.s
  have k9 := hp.list
  have f8 := hp.fr 8
  have f9 := hp.fr 9
  have hbl := hp.lt
  rw [he] at k8
  have w1 : (e : Int) < i := by omega
  have w2 : (0 : Int) ≤ e := by omega
  have w3 : (e : Int) ≤ i := by omega
  have w4 : (i : Int) ≤ p.s.size := by omega
  generalize hL : p.list = v at *
  go_enter Tryz.func87, Tryz.ntmps87
  go_wp2_with fail
  have hS : ∀ o o', Same w (((w.alloc o).alloc o').drew) := fun o o' => (((Mods.refl (fun _ => False) w).alloc o).alloc o').drew
  go_region_law (refine st_inl rfl (.tmp 14) (.tmp 28) rfl v n xs rfl (ownsRow_keep hown (hS _ _) (fun _ _ x => x)) (w.heap.size + 1) 1 156 _ rfl ((Blk.drew (Blk.newAt (n := w.heap.size + 1) _ _ (by simp))).cell 0) hn ?_; intro g cap w1 hown1 hgrow hloc; obtain ⟨hp1, hm1, hT, k9', k8', f9', f8', hbl'⟩ := emit_facts bp n p xs v _ w _ hp hL hown hgrow; clear hgrow; have hl2 := hloc.imp (fun h => h) (fun h => Nat.le_trans (hS _ _).size (Nat.le_of_eq h.symm)); clear hloc)
  all_goals go_wp2_with fail
  all_goals go_end0
  all_goals exact ⟨rfl, Emitted.mk' hL hp1 hm1 hT hown1 hl2⟩
end Go.Proofs.YtdnlfdppjfjncaaGreatDoor

/- isPunct, parseEscape on a sign. -/
namespace Go.Proofs.YtdnlfdppjfjncaaGreatDoor
open Go Go.RowKit Go.Proofs

def punct (c : UInt8) : Bool := (33 ≤ c.toNat && c.toNat ≤ 47) || (58 ≤ c.toNat && c.toNat ≤ 64) || (91 ≤ c.toNat && c.toNat ≤ 96) || (123 ≤ c.toNat && c.toNat ≤ 126)

set_option maxHeartbeats 4000000 in
theorem isPunct_any (c : UInt8) (w : World) :
    Calls Tryz.prog 109 #[.int .u8 c.toNat] w fun e w' => e = .returned (.bool (punct c)) ∧ w = w' := by
  have hc : punct c = ((33 ≤ c.toNat && c.toNat ≤ 47) || (58 ≤ c.toNat && c.toNat ≤ 64) || (91 ≤ c.toNat && c.toNat ≤ 96) || (123 ≤ c.toNat && c.toNat ≤ 126)) := rfl
  generalize punct c = b at *
  have HC := Lib.hid hc
  clear hc
  go_enter Tryz.func109, Tryz.ntmps109
  go_wp2_with fail
  all_goals
    go_ret
    refine ⟨congrArg (fun b => Ending.returned (.bool b)) ?_, rfl⟩
    rw [HC.out, Bool.eq_iff_iff]
    simp
    omega

set_option maxHeartbeats 2000000 in
theorem parseEscape_punct (a : Value) (s : ByteArray) (i : Nat) (w : World) (hi : i + 1 < s.size) (hs : s.size ≤ 1000000) (hp : punct s[i + 1] = true) :
    Calls Tryz.prog 75 #[a, .string s, .int .i64 i] w fun e w' => ∃ b, e = .returned (.tuple #[.iface 176 (.pointer (some ⟨b, 0, none⟩)), .int .i64 i, .int .i64 (i + 2 : Nat), .bool true]) ∧
      Same w w' ∧ w.heap.size ≤ b ∧ Blk w' b #[.string (s.extract (i + 1) (i + 2))] 178 := by
  have w1 : IntKind.i64.wrap ((i : Int) + 1) = (i : Int) + 1 := IntWalk.i64_in _ (by omega)
  have w2 : IntKind.i64.wrap ((i : Int) + 2) = (i : Int) + 2 := IntWalk.i64_in _ (by omega)
  have w3 : (i : Int) + 1 < s.size := by omega
  have w4 : (0 : Int) ≤ (i : Int) + 1 := by omega
  have w5 : ((i : Int) + 1).toNat = i + 1 := by omega
  have w6 : ((i : Int) + 2).toNat = i + 2 := by omega
  have w7 : (i : Int) + 1 ≤ (i : Int) + 2 := by omega
  have w8 : (i : Int) + 2 ≤ s.size := by omega
  go_enter Tryz.func75, Tryz.ntmps75
  go_wp2_with fail
  refine (isPunct_any _ w).mono ?_
  rintro e w' ⟨rfl, rfl⟩
  rw [hp]
  go_wp2_with fail
  try rw [Exit.noGoto_ret]
  refine bodyPost_ret (v := .tuple #[.iface 176 (.pointer (some ⟨w.heap.size, 0, none⟩)), .int .i64 i, .int .i64 (i + 2 : Nat), .bool true]) (by simp [results, Tryz.results75, go_sem]) rfl ?_
  exact ⟨_, rfl, (Mods.refl _ w).alloc _, Nat.le_refl _, Blk.newAt _ _ rfl⟩
end Go.Proofs.YtdnlfdppjfjncaaGreatDoor

/- inline on a text of plain bytes and escaped signs: the loop. -/
namespace Go.Proofs.YtdnlfdppjfjncaaGreatDoor
open Go Go.RowKit Go.Proofs

/-- A piece of a line. -/
inductive Pc | plain (s : ByteArray) | esc (s : ByteArray) | soft | auto (t u : ByteArray) | tag (s : ByteArray)

/-- The type of the pointer in the list, that of its block, and what the block holds. -/
def Pc.ty : Pc → Nat
  | .plain _ => 156
  | .esc _ => 176
  | .soft => 193
  | .auto _ _ => 262
  | .tag _ => 285
def Pc.bty : Pc → Nat
  | .plain _ => 137
  | .esc _ => 178
  | .soft => 194
  | .auto _ _ => 264
  | .tag _ => 286
def Pc.cells : Pc → Array Value
  | .plain s => #[.string s]
  | .esc s => #[.string s]
  | .soft => #[]
  | .auto t u => #[.string t, .string u]
  | .tag s => #[.string s]

/-- A type of a piece's block. -/
def PcTy (T : Nat) : Prop := T = 137 ∨ T = 178 ∨ T = 194 ∨ T = 264 ∨ T = 286
theorem Pc.bty_is (p : Pc) : PcTy p.bty := by
  cases p
  · exact Or.inl rfl
  · exact Or.inr (Or.inl rfl)
  · exact Or.inr (Or.inr (Or.inl rfl))
  · exact Or.inr (Or.inr (Or.inr (Or.inl rfl)))
  · exact Or.inr (Or.inr (Or.inr (Or.inr rfl)))
theorem PcTy.ne {T U : Nat} (h : PcTy T) (h1 : 137 ≠ U) (h2 : 178 ≠ U) (h3 : 194 ≠ U) (h4 : 264 ≠ U) (h5 : 286 ≠ U) : T ≠ U := by
  rcases h with rfl | rfl | rfl | rfl | rfl <;> assumption

def PcAt (w : World) (x : Value) (p : Pc) : Prop := ∃ b, x = .iface p.ty (.pointer (some ⟨b, 0, none⟩)) ∧ Blk w b p.cells p.bty

def PcsAt (w : World) : List Value → List Pc → Prop
  | [], [] => True
  | x :: xs, p :: ps => PcAt w x p ∧ PcsAt w xs ps
  | _, _ => False

theorem PcAt.keep {w w' : World} {S : Nat → Prop} {x : Value} {p : Pc} (h : PcAt w x p) (hm : Mods S w w') (hS : ∀ b cs T, Blk w b cs T → PcTy T → ¬ S b) : PcAt w' x p := by
  obtain ⟨b, hx, hb⟩ := h
  exact ⟨b, hx, hb.keep hm (hS b _ _ hb p.bty_is)⟩

theorem PcsAt.keep {w w' : World} {S : Nat → Prop} (hm : Mods S w w') (hS : ∀ b cs T, Blk w b cs T → PcTy T → ¬ S b) :
    ∀ {xs : List Value} {ps : List Pc}, PcsAt w xs ps → PcsAt w' xs ps
  | [], [], _ => trivial
  | _ :: _, _ :: _, h => ⟨h.1.keep hm hS, PcsAt.keep hm hS h.2⟩
  | [], _ :: _, h => h.elim
  | _ :: _, [], h => h.elim

theorem PcsAt.snoc {w : World} {x : Value} {p : Pc} (hx : PcAt w x p) : ∀ {xs : List Value} {ps : List Pc}, PcsAt w xs ps → PcsAt w (xs ++ [x]) (ps ++ [p])
  | [], [], _ => ⟨hx, trivial⟩
  | _ :: _, _ :: _, h => ⟨h.1, PcsAt.snoc hx h.2⟩
  | [], _ :: _, h => h.elim
  | _ :: _, [], h => h.elim

theorem PcsAt.length {w : World} : ∀ {xs : List Value} {ps : List Pc}, PcsAt w xs ps → xs.length = ps.length
  | [], [], _ => rfl
  | _ :: _, _ :: _, h => congrArg (· + 1) (PcsAt.length h.2)
  | [], _ :: _, h => h.elim
  | _ :: _, [], h => h.elim

/-- No byte that begins a piece of its own. -/
def dull (c : UInt8) : Bool := !([92, 96, 60, 91, 33, 95, 42, 46, 45, 34, 39, 126, 10, 38, 58] : List UInt8).contains c

theorem dull_ne {c : UInt8} (h : dull c = true) (k : UInt8) (hk : ([92, 96, 60, 91, 33, 95, 42, 46, 45, 34, 39, 126, 10, 38, 58] : List UInt8).contains k = true) : ((c.toNat : Int) == (k.toNat : Int)) = false := by
  apply beq_eq_false_iff_ne.2
  intro he
  have : c = k := UInt8.toNat_inj.1 (by omega)
  subst this
  unfold dull at h
  rw [hk] at h
  cases h

theorem Pc.ty_open (p : Pc) : p.ty ≠ 134 := by cases p <;> simp [Pc.ty]
theorem Pc.ty_emph (p : Pc) : p.ty ≠ 190 := by cases p <;> simp [Pc.ty]
theorem as_openPlain_no (p : Pc) (X : Nat) (v : Value) (w : World) : (Instr.typeAssert (.iface p.ty v) X 134 true).run Tryz.prog w = .ok (.tuple #[.pointer none, .bool false]) w :=
  as_ptr_no _ 134 139 (by kernel_rfl) (fun _ => by kernel_rfl) X v w p.ty_open
theorem eql_func_nil (n : Nat) (w : World) : (binOp .neq 130 (.func (.func n) #[] #[]) .nilFunc).run Tryz.prog w = .ok (.bool true) w := by kernel_rfl
theorem eql_nil_nil (w : World) : (binOp .neq 130 .nilFunc .nilFunc).run Tryz.prog w = .ok (.bool false) w := by kernel_rfl

/-- What the list of pieces is, seen from the world w0 in which inline began. -/
structure Held (w0 w : World) (bp : Nat) (p : PSt) (s : ByteArray) (e n : Nat) (lv : Value) (xs : List Value) (pcs : List Pc) : Prop where
  mods : Mods (fun b => b = bp) w0 w
  at_ : PsAt w bp { p with s := s, list := lv, emitted := ((e : Nat) : Int) }
  row : w.ownsRow 0 132 1 lv n xs
  pcs : PcsAt w xs pcs
  fresh : ∀ g, lv.ownBlock = some g → w0.heap.size ≤ g

theorem Held.same {w0 w w' : World} {bp : Nat} {p : PSt} {s : ByteArray} {e n : Nat} {lv : Value} {xs : List Value} {pcs : List Pc} (h : Held w0 w bp p s e n lv xs pcs) (hm : Same w w') : Held w0 w' bp p s e n lv xs pcs :=
  ⟨h.mods.then hm (fun _ _ x => absurd x (fun x => x)), h.at_.same hm, ownsRow_keep h.row hm (fun _ _ x => x), h.pcs.keep hm (fun _ _ _ _ _ x => x), h.fresh⟩

theorem pcs_safe {w : World} {bp n : Nat} {p : PSt} {lv : Value} {xs : List Value} (hp : PsAt w bp p) (hown : w.ownsRow 0 132 1 lv n xs) :
    ∀ b cs T, Blk w b cs T → PcTy T → ¬ (b = bp ∨ lv.ownBlock = some b) := by
  intro b cs T hb hT h
  rcases h with h | h
  · obtain ⟨tail, htl⟩ := id hp
    exact hb.ne_of_type htl (hT.ne (by decide) (by decide) (by decide) (by decide) (by decide)) h
  · exact own_ne hown hb (hT.ne (by decide) (by decide) (by decide) (by decide) (by decide)) h

theorem emit_held {w0 w : World} {bp : Nat} {p : PSt} {s : ByteArray} {e n : Nat} {lv : Value} {xs : List Value} {pcs : List Pc} (h : Held w0 w bp p s e n lv xs pcs) (i : Nat) (he : e ≤ i) (hi : i ≤ s.size) (hs : s.size ≤ 1000000) (hn : n ≤ 1000000) :
    Calls Tryz.prog 87 #[.pointer (some ⟨bp, 0, none⟩), .int .i64 i] w fun e' w' => e' = .returned (.tuple #[]) ∧ ∃ n' lv' xs', n' ≤ n + 1 ∧ Mods (fun k => k = bp ∨ lv.ownBlock = some k) w w' ∧
      Held w0 w' bp p s i n' lv' xs' (pcs ++ (if e < i then [.plain (s.extract e i)] else [])) := by
  by_cases hlt : e < i
  · refine (emit_some bp n _ xs e i w h.at_ rfl hlt hi hs h.row hn).mono ?_
    rintro e' w' ⟨rfl, hm, g, cap, b, hp, hown, hb, hbn, hloc⟩
    refine ⟨rfl, n + 1, _, _, Nat.le_refl _, hm, ?_, hp, hown, ?_, ?_⟩
    · refine h.mods.then hm (fun b hb hh => ?_)
      rcases hh with hh | hh
      · exact hh
      · have := h.fresh b hh; omega
    · rw [if_pos hlt]
      exact PcsAt.snoc (p := .plain (s.extract e i)) ⟨b, rfl, hb⟩ (h.pcs.keep hm (pcs_safe h.at_ h.row))
    · intro g' hg'
      cases hg'
      rcases hloc with hh | hh
      · exact h.fresh g hh
      · exact Nat.le_trans h.mods.size hh
  · have : e = i := by omega
    subst this
    refine (emit_none bp _ e e w h.at_ rfl (by omega)).mono ?_
    rintro e' w' ⟨rfl, rfl⟩
    refine ⟨rfl, n, lv, xs, by omega, Mods.refl _ _, ?_⟩
    rw [if_neg hlt, List.append_nil]
    exact h

theorem Held.push_at {w0 w w1 : World} {bp : Nat} {p : PSt} {s : ByteArray} {e n : Nat} {lv : Value} {xs : List Value} {pcs : List Pc} {o : Obj} (h : Held w0 w bp p s e n lv xs pcs) (hgrow : (w.alloc o).grownBy w1 lv.ownBlock) :
    w1.cell? ⟨bp, 9, none⟩ = some lv ∧ w1.frozen? ⟨bp, 9, none⟩ = false ∧ bp < w1.heap.size := by
  have h1 := h.same ((Mods.refl _ w).alloc o)
  have hp1 := h1.at_.keep (grown_mods hgrow) (fun x => own_ne_ps h1.row h1.at_ (by decide) x)
  exact ⟨hp1.list, hp1.fr 9, hp1.lt⟩

/-- A piece is put behind the others, and the list stored. -/
theorem Held.push {w0 w w1 : World} {bp : Nat} {p : PSt} {s : ByteArray} {e n g cap b : Nat} {lv : Value} {xs : List Value} {pcs : List Pc} {o : Obj} {pc : Pc} (h : Held w0 w bp p s e n lv xs pcs)
    (hown1 : w1.ownsRow 0 132 1 (.slice (some ⟨g, 0, none⟩) (n + 1) cap) (n + 1) (xs ++ [.iface pc.ty (.pointer (some ⟨b, 0, none⟩))])) (hgrow : (w.alloc o).grownBy w1 lv.ownBlock) (hloc : lv.ownBlock = some g ∨ g = w.heap.size + 1)
    (hb : Blk w b pc.cells pc.bty) :
    Held w0 (w1.setCell ⟨bp, 9, none⟩ (.slice (some ⟨g, 0, none⟩) (n + 1) cap)) bp p s e (n + 1) (.slice (some ⟨g, 0, none⟩) (n + 1) cap) (xs ++ [.iface pc.ty (.pointer (some ⟨b, 0, none⟩))]) (pcs ++ [pc]) := by
  have hS : Same w (w.alloc o) := (Mods.refl _ w).alloc o
  have h1 := h.same hS
  have hmA := grown_mods hgrow
  have hnb : lv.ownBlock ≠ some bp := fun x => own_ne_ps h1.row h1.at_ (by decide) x
  have hp1 := h1.at_.keep hmA hnb
  have hx1 := h1.pcs.keep hmA (fun b cs T hb hT x => pcs_safe h1.at_ h1.row b cs T hb hT (Or.inr x))
  have hb1 := (hS.blk hb).keep hmA (fun x => pcs_safe h1.at_ h1.row b _ _ (hS.blk hb) pc.bty_is (Or.inr x))
  have hm2 : Mods (fun k => k = bp) w1 (w1.setCell ⟨bp, 9, none⟩ (.slice (some ⟨g, 0, none⟩) (n + 1) cap)) := (Mods.refl (fun k => k = bp) w1).setCell (p := ⟨bp, 9, none⟩) (fun _ => rfl) _
  refine ⟨?_, hp1.set 9 _ _ rfl (by decide), ?_, ?_, ?_⟩
  · refine (h1.mods.then hmA (fun b hb hh => ?_)).then hm2 (fun _ _ x => x)
    have := h.fresh b hh; omega
  · exact ownsRow_keep hown1 hm2 (fun k hk he => own_ne_ps hown1 hp1 (by decide) (by rw [← he]; exact hk))
  · exact PcsAt.keep hm2 (fun b cs T hb hT x => pcs_safe hp1 hown1 b cs T hb hT (Or.inl x)) (PcsAt.snoc (p := pc) ⟨b, rfl, hb1⟩ hx1)
  · intro g' hg'
    cases hg'
    rcases hloc with hh | hh
    · exact h.fresh g hh
    · have := h.mods.size
      show w0.heap.size ≤ g
      omega

/-- What the call of a piece's function gives. -/
def PieceCall (s : ByteArray) (k fn : Nat) (pc : Pc) (st en : Nat) : Prop :=
  ∀ (bp : Nat) (q : PSt) (W : World), PsAt W bp q →
    Calls Tryz.prog fn #[.pointer (some ⟨bp, 0, none⟩), .string s, .int .i64 k] W fun e w' => ∃ b c, e = .returned (.tuple #[.iface pc.ty (.pointer (some ⟨b, 0, none⟩)), .int .i64 st, .int .i64 en, .bool true]) ∧
      Mods (fun k => k = bp) W w' ∧ PsAt w' bp { q with corner := c } ∧ W.heap.size ≤ b ∧ Blk w' b pc.cells pc.bty

/-- The bytes that begin a piece, and the function that reads it. -/
def Starts (c : UInt8) (fn : Nat) : Prop :=
  (c = 92 ∧ fn = 75) ∨ (c = 60 ∧ fn = 78) ∨ (c = 10 ∧ fn = 84)

/-- How a text is read from place k on, if nothing has been emitted from e on: into these pieces. -/
inductive Plan (s : ByteArray) : Nat → Nat → List Pc → Prop
  | fin (e : Nat) : Plan s s.size e (if e < s.size then [.plain (s.extract e s.size)] else [])
  | dull {k e : Nat} {r : List Pc} (hk : k < s.size) (hd : dull s[k] = true) (h : Plan s (k + 1) e r) : Plan s k e r
  | piece {k e : Nat} {r : List Pc} (hk : k < s.size) (fn : Nat) (hb : Starts s[k] fn) (pc : Pc) (st en : Nat) (h1 : e ≤ st) (h2 : st ≤ k) (h3 : k < en) (h4 : en ≤ s.size) (hc : PieceCall s k fn pc st en) (ho : ∀ t, pc ≠ .plain t)
      (h : Plan s en en r) : Plan s k e ((if e < st then [.plain (s.extract e st)] else []) ++ pc :: r)

/-- The state of the loop. -/
def Going (w0 w : World) (bp : Nat) (p : PSt) (s : ByteArray) (all : List Pc) (k : Nat) : Prop :=
  k ≤ s.size ∧ ∃ c e n lv xs pcs r, e ≤ k ∧ n ≤ e ∧ Held w0 w bp { p with corner := c } s e n lv xs pcs ∧ Plan s k e r ∧ pcs ++ r = all

theorem Held.skipped {w0 w w' : World} {bp : Nat} {p : PSt} {s : ByteArray} {e e' n : Nat} {lv : Value} {xs : List Value} {pcs : List Pc} (h : Held w0 w bp p s e n lv xs pcs) (hm : Mods (fun k => k = bp) w w')
    (hp : PsAt w' bp { p with s := s, list := lv, emitted := ((e' : Nat) : Int) }) : Held w0 w' bp p s e' n lv xs pcs :=
  ⟨h.mods.then hm (fun _ _ x => x), hp, ownsRow_keep h.row hm (fun k hk x => own_ne_ps h.row h.at_ (by decide) (by rw [← x]; exact hk)), h.pcs.keep hm (fun b cs T hb hT x => pcs_safe h.at_ h.row b cs T hb hT (Or.inl x)), h.fresh⟩

/-- A call that changes the parser's mark of a corner case alone. -/
theorem Held.cornered {w0 w w' : World} {bp : Nat} {p : PSt} {s : ByteArray} {e n : Nat} {lv : Value} {xs : List Value} {pcs : List Pc} {c : Bool} (h : Held w0 w bp p s e n lv xs pcs) (hm : Mods (fun k => k = bp) w w')
    (hp : PsAt w' bp { ({ p with s := s, list := lv, emitted := ((e : Nat) : Int) } : PSt) with corner := c }) : Held w0 w' bp { p with corner := c } s e n lv xs pcs :=
  ⟨h.mods.then hm (fun _ _ x => x), hp, ownsRow_keep h.row hm (fun k hk x => own_ne_ps h.row h.at_ (by decide) (by rw [← x]; exact hk)), h.pcs.keep hm (fun b cs T hb hT x => pcs_safe h.at_ h.row b cs T hb hT (Or.inl x)), h.fresh⟩
end Go.Proofs.YtdnlfdppjfjncaaGreatDoor

/- toPlain, mergePlain1 of one piece, mergePlain and autoLinkText where they change nothing. -/
namespace Go.Proofs.YtdnlfdppjfjncaaGreatDoor
open Go Go.RowKit Go.Proofs

/-- An append within the capacity that writes what is there already changes nothing. -/
theorem run_same {P : Program} {w : World} (t ty e : Nat) (ht : P.underlying t = some (.slice e)) (hi : (P.info? e).map (fun i => i.size) = some 1)
    (g i n cap : Nat) (xs : List Value) (hown : w.ownsRow 0 e 1 (.slice (some ⟨g, 0, none⟩) n cap) n xs) (hin : i < n) (u : Value) (hu : xs[i]? = some u) (h1 : u.oneCell' = true) (b c : Nat) (hb : w.cell? ⟨b, 0, none⟩ = some u) :
    ∃ w', (Builtin.append_ #[t, t] ty #[.slice (some ⟨g, 0, none⟩) i cap, .slice (some ⟨b, 0, none⟩) 1 c]).run P w = .ok (.slice (some ⟨g, 0, none⟩) (i + 1) cap) w' ∧ Same w w' := by
  obtain ⟨i0, hi0, hsz⟩ := Option.map_eq_some_iff.1 hi
  rcases hown.2 with ⟨h, _⟩ | ⟨g', cap', cur, hv, _, hg, hc, hm, hs, htake⟩
  · cases h
  · cases hv
    have hlen := hown.1
    simp only [Nat.mul_one] at hs htake hlen
    have hr := run_append_room (P := P) w t ty e i0 ht hi0 g i cap cur hg ⟨b, 0, none⟩ 1 c [u] (by rw [hsz]; rfl)
      (fun j y hy => by cases j with
        | zero => simp at hy; subst hy; simpa [Addr.add_lit] using hb
        | succ j => simp at hy) (fun y hy => by simp at hy; subst hy; exact h1) (by omega) (by rw [hsz]; simp; omega)
    refine ⟨_, hr, ?_⟩
    have hcu : cur.toList[i]? = some u := by
      rw [← hu, ← htake, List.getElem?_take_of_lt hin]
    have hcur : (cur.toList.take (i * i0.size) ++ [u] ++ cur.toList.drop (i * i0.size + [u].length)).toArray = cur := by
      rw [hsz, Nat.mul_one]
      have : cur.toList.take i ++ [u] ++ cur.toList.drop (i + 1) = cur.toList := by
        apply List.ext_getElem?
        intro j
        have hle : i ≤ cur.toList.length := by simp; omega
        rcases Nat.lt_trichotomy j i with h | h | h
        · rw [List.getElem?_append_left (by simp; omega), List.getElem?_append_left (by simp; omega), List.getElem?_take_of_lt h]
        · subst h
          rw [List.getElem?_append_left (by simp; omega), List.getElem?_append_right (by simp; omega), hcu]
          have hml : min j cur.toList.length = j := Nat.min_eq_left hle
          simp only [List.length_take, hml, Nat.sub_self]
          rfl
        · rw [List.getElem?_append_right (by simp; omega)]
          simp only [List.length_append, List.length_take, List.length_singleton, List.getElem?_drop]
          have hml : min i cur.toList.length = i := Nat.min_eq_left hle
          rw [hml]
          congr 1
          omega
      simp only [List.length_singleton]
      rw [this]
    rw [hcur]
    refine ⟨rfl, rfl, rfl, by simp, fun k _ _ => ?_⟩
    by_cases hk : k = g
    · subst hk
      rw [setRow_heap w k cur cur e _ hg, hg]
    · exact setRow_other w g k cur hk

section
variable {w : World} {ops : Array Oper} {rest : List Oper} {o : Oper} {a : Act} {Q : Exit → Act → World → Prop}

theorem wp_same_inl {K : Act → World → Prop} (s x : Operand) (ho : o.op = .call { callee := .builtin .append, args := #[s, x], argTypes := #[88, 88] })
    (g i n cap : Nat) (xs : List Value) (hown : w.ownsRow 0 132 1 (.slice (some ⟨g, 0, none⟩) n cap) n xs) (hin : i < n) (u : Value) (hu : xs[i]? = some u) (h1 : u.oneCell' = true) (b c : Nat)
    (hs : a.eval s = .slice (some ⟨g, 0, none⟩) i cap) (hx : a.eval x = .slice (some ⟨b, 0, none⟩) 1 c) (hb : w.cell? ⟨b, 0, none⟩ = some u)
    (h : ∀ w', Same w w' → K (a.put o.dst (.slice (some ⟨g, 0, none⟩) (i + 1) cap)) w') : o.wp Tryz.prog a w K Q := by
  obtain ⟨w', hr, hm⟩ := run_same (P := Tryz.prog) 88 o.type 132 Tryz.underlying88 (by kernel_rfl) g i n cap xs hown hin u hu h1 b c hb
  unfold Oper.wp execOp
  simp only [ho, resolve, invoke, builtin, Sem.run_bind, Sem.run_pure, Result.andThen_ok, List.map_toArray, List.map_cons, List.map_nil, hs, hx, hr]
  exact h w' hm

theorem wl_same_inl (hgd : o.guard = none) (s x : Operand) (ho : o.op = .call { callee := .builtin .append, args := #[s, x], argTypes := #[88, 88] })
    (g i n cap : Nat) (xs : List Value) (hown : w.ownsRow 0 132 1 (.slice (some ⟨g, 0, none⟩) n cap) n xs) (hin : i < n) (u : Value) (hu : xs[i]? = some u) (h1 : u.oneCell' = true) (b c : Nat)
    (hs : a.eval s = .slice (some ⟨g, 0, none⟩) i cap) (hx : a.eval x = .slice (some ⟨b, 0, none⟩) 1 c) (hb : w.cell? ⟨b, 0, none⟩ = some u)
    (h : ∀ w', Same w w' → wpList Tryz.prog ops Q rest (a.put o.dst (.slice (some ⟨g, 0, none⟩) (i + 1) cap)) w') : wpList Tryz.prog ops Q (o :: rest) a w :=
  wpList_plain hgd fun _ hK => wp_same_inl s x ho g i n cap xs hown hin u hu h1 b c hs hx hb fun w' hm => hK _ _ (h w' hm)

theorem st_same_inl {K : Act → World → Prop} {E : Prop} (hgd : o.guard = none) (s x : Operand) (ho : o.op = .call { callee := .builtin .append, args := #[s, x], argTypes := #[88, 88] })
    (g i n cap : Nat) (xs : List Value) (hown : w.ownsRow 0 132 1 (.slice (some ⟨g, 0, none⟩) n cap) n xs) (hin : i < n) (u : Value) (hu : xs[i]? = some u) (h1 : u.oneCell' = true) (b c : Nat)
    (hs : a.eval s = .slice (some ⟨g, 0, none⟩) i cap) (hx : a.eval x = .slice (some ⟨b, 0, none⟩) 1 c) (hb : w.cell? ⟨b, 0, none⟩ = some u)
    (h : ∀ w', Same w w' → K (a.put o.dst (.slice (some ⟨g, 0, none⟩) (i + 1) cap)) w') : if Region.wanted o (yielded ops a.tmps) = true then Oper.wp Tryz.prog o a w K Q else E := by
  have hw : Region.wanted o (yielded ops a.tmps) = true := by simp [Region.wanted, hgd]
  rw [if_pos hw]
  exact wp_same_inl s x ho g i n cap xs hown hin u hu h1 b c hs hx hb h
end

theorem as_plain_yes (X : Nat) (v : Value) (w : World) : (Instr.typeAssert (.iface 156 v) X 156 true).run Tryz.prog w = .ok (.tuple #[v, .bool true]) w := by kernel_rfl
theorem as_emphPlain_no (p : Pc) (X : Nat) (v : Value) (w : World) : (Instr.typeAssert (.iface p.ty v) X 190 true).run Tryz.prog w = .ok (.tuple #[.pointer none, .bool false]) w :=
  as_ptr_no _ 190 192 (by kernel_rfl) (fun _ => by kernel_rfl) X v w p.ty_emph

/-- A piece that is no plain text. -/
def Pc.other (p : Pc) : Prop := ∀ s, p ≠ .plain s
theorem Pc.ty_other {p : Pc} (h : p.other) : p.ty ≠ 156 := by
  cases p with
  | plain s => exact absurd rfl (h s)
  | _ => simp [Pc.ty]
theorem as_plain_no {p : Pc} (h : p.other) (X : Nat) (v : Value) (w : World) : (Instr.typeAssert (.iface p.ty v) X 156 true).run Tryz.prog w = .ok (.tuple #[.pointer none, .bool false]) w :=
  as_ptr_no _ 156 137 (by kernel_rfl) (fun _ => by kernel_rfl) X v w (Pc.ty_other h)

theorem toPlain_plain (a : Option Addr) (w : World) : Calls Tryz.prog 131 #[.iface 156 (.pointer a)] w fun e w' => e = .returned (.pointer a) ∧ w = w' := by
  have h := as_plain_yes
  go_enter Tryz.func131, Tryz.ntmps131
  go_wp2_with fail
  try rw [Exit.noGoto_ret]
  go_ret
  exact ⟨rfl, rfl⟩

theorem toPlain_other {p : Pc} (h : p.other) (a : Option Addr) (w : World) : Calls Tryz.prog 131 #[.iface p.ty (.pointer a)] w fun e w' => e = .returned (.pointer none) ∧ w = w' := by
  have h1 := as_plain_no h
  have h2 := as_emphPlain_no p
  have h3 := as_openPlain_no p
  clear h
  generalize p.ty = T at *
  go_enter Tryz.func131, Tryz.ntmps131
  go_wp2_with fail
  try rw [Exit.noGoto_ret]
  go_ret
  exact ⟨rfl, rfl⟩

theorem mergePlain1_one (g i cap : Nat) (a : Option Addr) (w : World) (h : w.cell? ⟨g, i, none⟩ = some (.iface 156 (.pointer a))) :
    Calls Tryz.prog 132 #[.slice (some ⟨g, i, none⟩) 1 cap] w fun e w' => e = .returned (.pointer a) ∧ w = w' := by
  go_enter Tryz.func132, Tryz.ntmps132
  go_wp2_with fail
  refine (toPlain_plain a w).mono ?_
  rintro e w' ⟨rfl, rfl⟩
  go_wp2_with fail
  go_ret
  exact ⟨rfl, rfl⟩

theorem autoLinkText_off (bp : Nat) (p : PSt) (v : Value) (w : World) (hp : PsAt w bp p) (hO : Opt w p 3 false) :
    Calls Tryz.prog 93 #[.pointer (some ⟨bp, 0, none⟩), v] w fun e w' => e = .returned v ∧ w = w' := by
  have k0 := hp.parser
  have kO := hO.cell
  go_enter Tryz.func93, Tryz.ntmps93
  go_wp2_with fail
  go_ret
  exact ⟨rfl, rfl⟩
end Go.Proofs.YtdnlfdppjfjncaaGreatDoor

/- mergePlain and emph change nothing in a list of pieces where no two plain ones stand side by side. -/
namespace Go.Proofs.YtdnlfdppjfjncaaGreatDoor
open Go Go.RowKit Go.Proofs

theorem PcsAt.get {w : World} : ∀ {xs : List Value} {ps : List Pc} (i : Nat), PcsAt w xs ps → i < xs.length → ∃ x pc, xs[i]? = some x ∧ ps[i]? = some pc ∧ PcAt w x pc
  | [], [], i, _, h => absurd h (Nat.not_lt_zero _)
  | x :: _, p :: _, 0, h, _ => ⟨x, p, rfl, rfl, h.1⟩
  | _ :: _, _ :: _, i + 1, h, hi => by
    obtain ⟨x, pc, h1, h2, h3⟩ := PcsAt.get i h.2 (by simpa using hi)
    exact ⟨x, pc, by simpa using h1, by simpa using h2, h3⟩
  | [], _ :: _, _, h, _ => h.elim
  | _ :: _, [], _, h, _ => h.elim

/-- No two plain pieces side by side. -/
def NoPP (ps : List Pc) : Prop := ∀ i s t, ps[i]? = some (.plain s) → ps[i + 1]? = some (.plain t) → False

/-- What stands at one place of the list: the cell, and which piece. -/
theorem piece_at {w : World} {g n cap : Nat} {xs : List Value} {ps : List Pc} (hown : w.ownsRow 0 132 1 (.slice (some ⟨g, 0, none⟩) n cap) n xs) (hx : PcsAt w xs ps) (i : Nat) (hi : i < n) :
    (∃ b s, w.cell? ⟨g, i, none⟩ = some (.iface 156 (.pointer (some ⟨b, 0, none⟩))) ∧ xs[i]? = some (.iface 156 (.pointer (some ⟨b, 0, none⟩))) ∧ ps[i]? = some (.plain s)) ∨
    (∃ b pc, w.cell? ⟨g, i, none⟩ = some (.iface pc.ty (.pointer (some ⟨b, 0, none⟩))) ∧ xs[i]? = some (.iface pc.ty (.pointer (some ⟨b, 0, none⟩))) ∧ ps[i]? = some pc ∧ pc.other) := by
  have hl : xs.length = n := by have := hown.1; omega
  obtain ⟨_, _, he, _, _, hc⟩ := ownsRow_form hown (by omega)
  cases he
  obtain ⟨x, pc, h1, h2, h3⟩ := hx.get i (by omega)
  obtain ⟨b, rfl, _⟩ := h3
  cases pc with
  | plain s => exact Or.inl ⟨b, s, hc i _ h1, h1, h2⟩
  | esc s => exact Or.inr ⟨b, .esc s, hc i _ h1, h1, h2, fun _ h => by cases h⟩
  | soft => exact Or.inr ⟨b, .soft, hc i _ h1, h1, h2, fun _ h => by cases h⟩
  | auto t u => exact Or.inr ⟨b, .auto t u, hc i _ h1, h1, h2, fun _ h => by cases h⟩
  | tag s => exact Or.inr ⟨b, .tag s, hc i _ h1, h1, h2, fun _ h => by cases h⟩

/-- Such a place, the type a letter. -/
theorem piece_other {w : World} {g n cap : Nat} {xs : List Value} {ps : List Pc} (hown : w.ownsRow 0 132 1 (.slice (some ⟨g, 0, none⟩) n cap) n xs) (hx : PcsAt w xs ps) (i : Nat) (hi : i < n) :
    (∃ b s, w.cell? ⟨g, i, none⟩ = some (.iface 156 (.pointer (some ⟨b, 0, none⟩))) ∧ xs[i]? = some (.iface 156 (.pointer (some ⟨b, 0, none⟩))) ∧ ps[i]? = some (.plain s)) ∨
    (∃ b T, w.cell? ⟨g, i, none⟩ = some (.iface T (.pointer (some ⟨b, 0, none⟩))) ∧ xs[i]? = some (.iface T (.pointer (some ⟨b, 0, none⟩))) ∧ (∀ s, ps[i]? ≠ some (.plain s)) ∧
      (∀ a W, Calls Tryz.prog 131 #[.iface T (.pointer a)] W fun e w' => e = .returned (.pointer none) ∧ W = w')) := by
  rcases piece_at hown hx i hi with h | ⟨b, pc, h1, h2, h3, h4⟩
  · exact Or.inl h
  · exact Or.inr ⟨b, pc.ty, h1, h2, fun s h => by rw [h3] at h; exact h4 s (Option.some.inj h), fun a W => toPlain_other h4 a W⟩

/-- What a place holds, for emph: no mark of emphasis, no bracket. -/
theorem piece_quiet {w : World} {g n cap : Nat} {xs : List Value} {ps : List Pc} (hown : w.ownsRow 0 132 1 (.slice (some ⟨g, 0, none⟩) n cap) n xs) (hx : PcsAt w xs ps) (i : Nat) (hi : i < n) :
    ∃ b T, w.cell? ⟨g, i, none⟩ = some (.iface T (.pointer (some ⟨b, 0, none⟩))) ∧ xs[i]? = some (.iface T (.pointer (some ⟨b, 0, none⟩))) ∧
      (∀ X v W, (Instr.typeAssert (.iface T v) X 134 true).run Tryz.prog W = .ok (.tuple #[.pointer none, .bool false]) W) ∧
      (∀ X v W, (Instr.typeAssert (.iface T v) X 190 true).run Tryz.prog W = .ok (.tuple #[.pointer none, .bool false]) W) := by
  rcases piece_at hown hx i hi with ⟨b, s, h1, h2, _⟩ | ⟨b, pc, h1, h2, _, _⟩
  · exact ⟨b, _, h1, h2, as_openPlain_no (.plain s), as_emphPlain_no (.plain s)⟩
  · exact ⟨b, pc.ty, h1, h2, as_openPlain_no pc, as_emphPlain_no pc⟩

set_option maxRecDepth 100000 in
set_option maxHeartbeats 4000000 in
theorem mergePlain_id (q : Value) (g n cap : Nat) (xs : List Value) (ps : List Pc) (w : World) (hown : w.ownsRow 0 132 1 (.slice (some ⟨g, 0, none⟩) n cap) n xs) (hx : PcsAt w xs ps) (hpp : NoPP ps) (hn : n ≤ 1000000) :
    Calls Tryz.prog 92 #[q, .slice (some ⟨g, 0, none⟩) n cap] w fun e w' => e = .returned (.slice (some ⟨g, 0, none⟩) n cap) ∧ Same w w' := by
  have hcap : n ≤ cap := by
    rcases hown.2 with ⟨h, _⟩ | ⟨_, _, _, h, _, _, hc, _⟩
    · cases h
    · cases h; exact hc
  have c1 : (0 : Int) ≤ cap := by omega
  go_enter Tryz.func92, Tryz.ntmps92
  go_wp2_with fail
  go_loopg [5, 6, 7] (n + 1) (fun m v5 v6 v7 wr => ∃ i : Nat, v7 = .int .i64 i ∧ m = n + 1 - i ∧ i ≤ n ∧ Same w wr ∧
    ((v5 = .slice (some ⟨g, 0, none⟩) i cap ∧ v6 = .int .i64 i ∧ (∀ k, i = k + 1 → ∀ s, ps[k]? ≠ some (.plain s))) ∨ (∃ k s, i = k + 1 ∧ v5 = .slice (some ⟨g, 0, none⟩) k cap ∧ v6 = .int .i64 k ∧ ps[k]? = some (.plain s))))
  case atStart => exact ⟨0, rfl, by omega, by omega, Mods.refl _ _, Or.inl ⟨rfl, rfl, fun k hk => by omega⟩⟩
  case round =>
    obtain ⟨i, rfl, rfl, hi, hm, hor⟩ := hrel
    have hownr := ownsRow_keep hown hm (fun _ _ x => x)
    have hxr := hx.keep hm (fun _ _ _ _ _ x => x)
    have w1 : IntKind.i64.wrap ((i : Int) + 1) = (i : Int) + 1 := IntWalk.i64_in _ (by omega)
    have w2 : (0 : Int) ≤ i := by omega
    have HM := Lib.hid hm
    clear hm
    by_cases hlt : i < n
    · have w3 : (i : Int) < n := by omega
      have w4 : ¬ ((n : Int) ≤ i) := by omega
      rcases piece_other hownr hxr i hlt with ⟨b, s, hc, hxi, hpi⟩ | ⟨b, T, hc, hxi, hpi, hTP⟩
      · rcases hor with ⟨rfl, rfl, hno⟩ | ⟨k, t, hik, rfl, rfl, hk⟩
        · clear hno
          go_wp2_with fail
          refine (toPlain_plain _ wr).mono ?_
          rintro e w' ⟨rfl, rfl⟩
          go_wp2_with fail
          go_roundg (n + 1 - (i + 1))
          case measure => omega
          case rel => exact ⟨i + 1, by simp, rfl, by omega, HM.out, Or.inr ⟨i, s, rfl, rfl, rfl, hpi⟩⟩
        · subst hik; exact (hpp k t s hk hpi).elim
      · rcases hor with ⟨rfl, rfl, hno⟩ | ⟨k, t, hik, rfl, rfl, hk⟩
        · clear hno
          go_wp2_with fail
          refine (hTP _ wr).mono ?_
          rintro e w' ⟨rfl, rfl⟩
          go_wp2_with (at_builtin; refine wl_same_inl rfl (.tmp 40) (.tmp 45) rfl g i n cap xs (hownr.alloc _) hlt _ hxi rfl wr.heap.size 1 rfl rfl ((Blk.newAt _ _ rfl).cell 0) ?_)
          intro wB hmB
          go_wp2_with fail
          go_roundg (n + 1 - (i + 1))
          case measure => omega
          case rel => exact ⟨i + 1, by simp, rfl, by omega, (HM.out.alloc _).trans hmB, Or.inl ⟨rfl, by simp, fun k hk s' hs' => by cases hk; exact hpi s' hs'⟩⟩
        · obtain ⟨b0, s0, hc0, hx0, hp0⟩ | ⟨b0, pc0, hc0, hx0, hp0, ho0⟩ := piece_at hownr hxr k (by omega)
          · have v1 : (k : Int) < i := by omega
            have v2 : (0 : Int) ≤ k := by omega
            have v3 : (k : Int) ≤ i := by omega
            have v4 : (i : Int) ≤ cap := by omega
            have v5 : i - k = 1 := by omega
            have hkn : k < n := by omega
            have HI := Lib.hid hik
            clear hik hk
            go_wp2_with fail
            refine (hTP _ wr).mono ?_
            rintro e w' ⟨rfl, rfl⟩
            go_wp2_with fail
            refine (mergePlain1_one g k _ _ wr hc0).mono ?_
            rintro e w' ⟨rfl, rfl⟩
            go_wp2_with (at_builtin; refine wl_same_inl rfl (.tmp 27) (.tmp 34) rfl g k n cap xs (hownr.alloc _) hkn _ hx0 rfl wr.heap.size 1 rfl rfl ((Blk.newAt _ _ rfl).cell 0) ?_)
            intro wB hmB
            have hmB' := ((Mods.refl (fun _ => False) wr).alloc _).trans hmB
            have hownB := ownsRow_keep hownr hmB' (fun _ _ x => x)
            have hcB : wB.cell? ⟨g, i, none⟩ = some (.iface T (.pointer (some ⟨b, 0, none⟩))) := by
              obtain ⟨_, _, he, _, _, hcc⟩ := ownsRow_form hownB (by omega)
              cases he
              exact hcc i _ hxi
            go_wp2_with (at_builtin; refine wl_same_inl rfl (.tmp 40) (.tmp 45) rfl g (k + 1) n cap xs (hownB.alloc _) (by have := HI.out; omega) _ (by rw [← HI.out]; exact hxi) rfl wB.heap.size 1 rfl rfl ((Blk.newAt _ _ rfl).cell 0) ?_)
            intro wC hmC
            go_wp2_with fail
            go_roundg (n + 1 - (i + 1))
            case measure => omega
            case rel => exact ⟨i + 1, by simp, rfl, by omega, ((HM.out.trans hmB').alloc _).trans hmC, Or.inl ⟨by rw [HI.out], by simp, fun k hk s' hs' => by cases hk; exact hpi s' hs'⟩⟩
          · rw [hk] at hp0; cases hp0; exact absurd rfl (ho0 _)
    · have hin : i = n := by omega
      subst hin
      have w3 : ¬ ((i : Int) < i) := by omega
      rcases hor with ⟨rfl, rfl, hno⟩ | ⟨k, t, hik, rfl, rfl, hk⟩
      · clear hno
        go_wp2_with fail
        go_ret
        exact ⟨rfl, HM.out⟩
      · obtain ⟨b0, s0, hc0, hx0, hp0⟩ | ⟨b0, pc0, hc0, hx0, hp0, ho0⟩ := piece_at hownr hxr k (by omega)
        · have v1 : (k : Int) < i := by omega
          have v2 : (0 : Int) ≤ k := by omega
          have v3 : (k : Int) ≤ i := by omega
          have v4 : (i : Int) ≤ cap := by omega
          have v5 : i - k = 1 := by omega
          have hkn : k < i := by omega
          have HI := Lib.hid hik
          clear hik hk
          go_wp2_with fail
          refine (mergePlain1_one g k _ _ wr hc0).mono ?_
          rintro e w' ⟨rfl, rfl⟩
          go_wp2_with (at_builtin; refine wl_same_inl rfl (.tmp 27) (.tmp 34) rfl g k i cap xs (hownr.alloc _) hkn _ hx0 rfl wr.heap.size 1 rfl rfl ((Blk.newAt _ _ rfl).cell 0) ?_)
          intro wB hmB
          have hmB' := ((Mods.refl (fun _ => False) wr).alloc _).trans hmB
          go_wp2_with fail
          go_ret
          exact ⟨by rw [HI.out]; rfl, HM.out.trans hmB'⟩
        · rw [hk] at hp0; cases hp0; exact absurd rfl (ho0 _)
end Go.Proofs.YtdnlfdppjfjncaaGreatDoor
