/- newPara where no paragraph is open: a new one, with this line. -/
import Derived.Test.YtdnlfdppjfjncaaGreatDoorStack
namespace Go.Proofs.YtdnlfdppjfjncaaGreatDoor
open Go Go.RowKit Go.Proofs

abbrev zeroLV : Value := .agg #[.int .i64 0, .int .i64 0, .int .i64 0, .string ⟨#[]⟩, .int .u8 0]

/-- Option k of the parser has this value. -/
def Opt (w : World) (p : PSt) (k : Nat) (b : Bool) : Prop := ∃ cs, Blk w p.parser cs 76 ∧ cs[k]? = some (.bool b)
theorem Opt.cell {w : World} {p : PSt} {k : Nat} {b : Bool} (h : Opt w p k b) : w.cell? ⟨p.parser, k, none⟩ = some (.bool b) := by
  obtain ⟨cs, h1, h2⟩ := h
  rw [h1.cell, h2]
theorem Opt.keep {w w' : World} {p : PSt} {k : Nat} {b : Bool} {S : Nat → Prop} (h : Opt w p k b) (hm : Mods S w w') (hS : ¬ S p.parser) : Opt w' p k b := by
  obtain ⟨cs, h1, h2⟩ := h
  exact ⟨cs, h1.keep hm hS, h2⟩

structure ParaNew (w w' : World) (bp : Nat) (p : PSt) (n : Nat) (l : List Value) (s : ByteArray) : Prop where
  mods : Mods (fun k => k = bp ∨ p.stack.ownBlock = some k) w w'
  ex : ∃ g cap bb tv, PsAt w' bp { p with stack := .slice (some ⟨g, 0, none⟩) (n + 2) cap } ∧
    w'.ownsRow 0 121 4 (.slice (some ⟨g, 0, none⟩) (n + 2) cap) (n + 2) (l ++ [.iface 162 (.pointer (some ⟨bb, 0, none⟩)), .slice none 0 0, .int .i64 p.lineno, .int .i64 p.lineno]) ∧
    Blk w' bb #[tv, .pointer none] 166 ∧ w'.ownsRow 0 9 1 tv 1 [.string s] ∧ w.heap.size ≤ bb ∧ (g < w.heap.size → p.stack.ownBlock = some g)

set_option maxRecDepth 100000 in
set_option maxHeartbeats 4000000 in
theorem newPara_first (bp g n cap : Nat) (p : PSt) (T : Nat) (v : Value) (l : List Value) (text : ByteArray) (i : Nat) (nl : Int) (w : World) (h : NoPara w bp g n cap p T v) (hd : p.depth = n) (hn : n ≤ 100)
    (hi : i ≤ text.size) (hs : text.size ≤ 1000000) (hO : Opt w p 5 false) (hown : w.ownsRow 0 121 4 p.stack (n + 1) l) :
    Calls Tryz.prog 72 #[.pointer (some ⟨bp, 0, none⟩), LV i text nl] w fun e w' => e = .returned (.tuple #[zeroLV, .bool true]) ∧ ParaNew w w' bp p n l (trimL (text.extract i text.size)) := by
  have HD := Lib.hid hd
  clear hd
  go_enter Tryz.func72, Tryz.ntmps72
  go_wp2_with fail
  generalize hW : ((w.alloc _).alloc _ : World) = W
  have hm0 : Same w W := by subst hW; exact ((Mods.refl _ w).alloc _).alloc _
  have hb : LineAt W w.heap.size i text nl := by subst hW; exact (Blk.newAt _ _ rfl).alloc _
  have hr : LineAt W (w.heap.size + 1) 0 ⟨#[]⟩ 0 := by subst hW; exact Blk.newAt _ _ (by simp)
  clear hW
  have h1 := h.same hm0
  have hown1 := ownsRow_keep hown hm0 (fun _ _ x => x)
  have hO1 := hO.keep hm0 (fun x => x)
  refine (para_other bp g n cap p T v W h1.at_ h1.stack h1.small h1.top h1.other).mono ?_
  rintro e w1 ⟨rfl, n1, rfl⟩
  have k4 := h1.at_.stack
  rw [h1.stack] at k4
  have k5 := h1.at_.depth
  rw [HD.out] at k5
  have e1 : IntKind.i64.wrap ((n : Int) + 1 - 2) = (n : Int) - 1 := by rw [IntWalk.i64_in _ (by omega)]; omega
  have e2 : ((n : Int) == (n : Int) - 1) = false := beq_eq_false_iff_ne.2 (by omega)
  go_wp2_with fail
  go_quiet (fail)
  generalize hX : ((W.drewN n1).drewN _ : World) = W2
  have hm1 : Same W W2 := by subst hX; exact ((Mods.refl _ W).drewN _).drewN _
  clear hX k4 k5 e1 e2
  have h2 := h1.same hm1
  have hb2 := Same.blk hm1 hb
  have hr2 := Same.blk hm1 hr
  have hown2 := ownsRow_keep hown1 hm1 (fun _ _ x => x)
  have hO2 := hO1.keep hm1 (fun x => x)
  have hk := hm0.trans hm1
  clear h1 hb hr hown1 hO1 hm0 hm1
  go_wp2_with fail
  refine (trimSpaceString_any _ _ _ _ _ hs hi hb2).mono ?_
  rintro e w3 ⟨rfl, n3, rfl⟩
  have hm3 : Same W2 (W2.drewN n3) := (Mods.refl _ W2).drewN _
  generalize W2.drewN n3 = W3 at *
  have h3 := h2.same hm3
  have hr3 := Same.blk hm3 hr2
  have hown3 := ownsRow_keep hown2 hm3 (fun _ _ x => x)
  have hO3 := hO2.keep hm3 (fun x => x)
  have hk3 := hk.trans hm3
  clear h2 hb2 hr2 hown2 hO2 hk hm3
  have o5 := hO3.cell
  have k0 := h3.at_.parser
  have hpl : p.parser < W3.heap.size := World.block_lt_of_cell? _ _ o5
  have hbpl := h3.at_.lt
  go_wp2_with fail
  go_quiet (fail)
  generalize hX : (W3.drewN _ : World) = W4
  have hm4 : Same W3 W4 := by subst hX; exact (Mods.refl _ W3).drewN _
  clear hX o5 k0 hpl hbpl
  have h4 := h3.same hm4
  have hr4 := Same.blk hm4 hr3
  have hown4 := ownsRow_keep hown3 hm4 (fun _ _ x => x)
  have hk4 := hk3.trans hm4
  clear h3 hr3 hown3 hO3 hk3 hm4
  have hgl : g < W4.heap.size := World.block_lt_of_cell? _ _ h4.top
  have hbl := h4.at_.lt
  have hB0 : Blk (W4.alloc (.cells #[.slice none 0 0, .pointer none] 166)) W4.heap.size #[.slice none 0 0, .pointer none] 166 := Blk.newAt _ _ rfl
  have hmB : Same W4 (W4.alloc (.cells #[.slice none 0 0, .pointer none] 166)) := (Mods.refl _ _).alloc _
  go_wp2_with fail
  have hown4' : (W4.alloc (.cells #[.slice none 0 0, .pointer none] 166)).ownsRow 0 121 4 (.slice (some ⟨g, 0, none⟩) (n + 1) cap) (n + 1) l := by
    have := ownsRow_keep hown4 hmB (fun _ _ x => x)
    rwa [h4.stack] at this
  obtain ⟨tail, htl⟩ := id h4.at_
  obtain ⟨_, _, he, ⟨cur, hcur⟩, _, _⟩ := ownsRow_form (h4.stack ▸ hown4) (by omega)
  cases he
  have hgbp : g ≠ bp := hcur.ne_of_type htl (by decide)
  refine (addBlock_any bp (n + 1) cap (some ⟨g, 0, none⟩) p 162 (.pointer (some ⟨W4.heap.size, 0, none⟩)) l n _ (h4.at_.same hmB) h4.stack (by omega) HD.out (by omega) hown4' (by intro g' hg'; cases hg'; exact hgbp) rfl).mono ?_
  rintro e w5 ⟨rfl, hadd⟩
  obtain ⟨g5, cap5, hp5, hown5, hloc5⟩ := hadd.ex
  have HLOC5 := Lib.hid hloc5
  clear hloc5
  have hm5 := hadd.mods
  have hgl0 : g < w.heap.size := World.block_lt_of_cell? _ _ h.top
  have hbl0 := h.at_.lt
  have hB5 := hB0.keep hm5 (by rw [h4.stack]; intro h; rcases h with h | h; omega; have hh : g = W4.heap.size := Option.some.inj h; omega)
  have hr5 := Blk.keep (hr4.alloc (.cells #[.slice none 0 0, .pointer none] 166)) hm5 (by rw [h4.stack]; intro h; rcases h with h | h; omega; have hh : g = w.heap.size + 1 := Option.some.inj h; omega)
  have b0 : w5.cell? ⟨W4.heap.size, 0, none⟩ = some (.slice none 0 0) := hB5.cell 0
  have bf := hB5.fr 0
  have bl := hB5.lt
  go_wp2_with (at_builtin; refine ap_str rfl (.tmp 168) (.tmp 170) rfl _ 0 [] rfl (World.ownsRow_nil _ _ _ _) w5.heap.size 1 (trimL (text.extract i text.size)) rfl ?_ (by omega) ?_)
  · exact (Blk.newAt (w := w5) _ _ rfl).cell 0
  · intro g6 cap6 w6 hown6 hgrow hloc
    have hm6 : Same w5 w6 := ((Mods.refl _ w5).alloc _).trans ((grown_mods hgrow).mono (fun k _ h => by cases h))
    have hB6 := Same.blk hm6 hB5
    have hr6 := Same.blk hm6 hr5
    have hp6 := hp5.same hm6
    have hown5' := ownsRow_keep hown5 hm6 (fun _ _ x => x)
    have HLOC := Lib.hid hloc
    clear b0 bf bl hgrow hloc hB5 hr5 hp5 hown5
    have b0 : w6.cell? ⟨W4.heap.size, 0, none⟩ = some (.slice none 0 0) := hB6.cell 0
    have bf := hB6.fr 0
    have bl := hB6.lt
    obtain ⟨r0, r1, r2, r3, r4, rf0, rf1, rf2, rf3, rf4, rbl⟩ := LineAt.facts hr6
    have hne : W4.heap.size ≠ w.heap.size + 1 := by have := hr4.lt; omega
    go_wp2
    have hL7 : LineAt (w6.setCell ⟨W4.heap.size, 0, none⟩ (.slice (some ⟨g6, 0, none⟩) 1 cap6)) (w.heap.size + 1) 0 ⟨#[]⟩ 0 := Blk.set_other hr6 (a := ⟨W4.heap.size, 0, none⟩) hne _
    have hB7 := hB6.set_same 0 (.slice (some ⟨g6, 0, none⟩) 1 cap6)
    have hm7 : Mods (fun k => k = W4.heap.size ∨ k = w.heap.size + 1) w6 (P5 (w6.setCell ⟨W4.heap.size, 0, none⟩ (.slice (some ⟨g6, 0, none⟩) 1 cap6)) (w.heap.size + 1) 0 ⟨#[]⟩ 0) :=
      ((Mods.refl (fun k => k = W4.heap.size ∨ k = w.heap.size + 1) w6).setCell (p := ⟨W4.heap.size, 0, none⟩) (fun _ => Or.inl rfl) _).trans ((put5 hL7 0 ⟨#[]⟩ 0).1.mono (fun _ _ h => Or.inr h))
    have hsz := hk4.size
    refine bodyPost_ret (v := .tuple #[zeroLV, .bool true]) (by simp [results, Tryz.results72, go_sem, r0, r1, r2, r3, r4]) rfl ⟨rfl, ?_, g5, cap5, W4.heap.size, .slice (some ⟨g6, 0, none⟩) 1 cap6, ?_, ?_, ?_, ?_, hsz, fun hlt => HLOC5.out (by have := hmB.size; omega)⟩
    · have m1 : Same w (W4.alloc (.cells #[.slice none 0 0, .pointer none] 166)) := hk4.trans hmB
      have m2 : Mods (fun k => k = bp ∨ p.stack.ownBlock = some k) w w5 := (m1.mono (fun _ _ h => absurd h (fun x => x))).then hm5 (fun _ _ h => h)
      have m3 : Mods (fun k => k = bp ∨ p.stack.ownBlock = some k) w w6 := m2.then hm6 (fun _ _ h => absurd h (fun x => x))
      exact m3.then hm7 (fun b hb h => by omega)
    · exact hp6.keep hm7 (by omega)
    · obtain ⟨_, _, he5, ⟨cur5, hcur5⟩, _, _⟩ := ownsRow_form hown5' (by omega)
      cases he5
      have n1 := hcur5.ne_of_type hB6 (by decide)
      have n2 := hcur5.ne_of_type hr6 (by decide)
      exact ownsRow_keep hown5' hm7 (by intro k hk; cases hk; intro h; rcases h with h | h; exact n1 h; exact n2 h)
    · exact hB7.keep1 (put5 hL7 0 ⟨#[]⟩ 0).1 hne
    · obtain ⟨_, _, he6, ⟨cur6, hcur6⟩, _, _⟩ := ownsRow_form hown6 (by omega)
      cases he6
      have n1 := hcur6.ne_of_type hB6 (by decide)
      have n2 := hcur6.ne_of_type hr6 (by decide)
      exact ownsRow_keep hown6 hm7 (by intro k hk; cases hk; intro h; rcases h with h | h; exact n1 h; exact n2 h)
end Go.Proofs.YtdnlfdppjfjncaaGreatDoor
