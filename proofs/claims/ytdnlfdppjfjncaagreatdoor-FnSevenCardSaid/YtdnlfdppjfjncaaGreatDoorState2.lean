/- Further functions that only look at the parser's state; the trials for headings with a line under them, code, fences, lists. -/
import Derived.Test.YtdnlfdppjfjncaaGreatDoorState
namespace Go.Proofs.YtdnlfdppjfjncaaGreatDoor
open Go Go.RowKit Go.Proofs

set_option maxHeartbeats 1000000 in
theorem nextB_nil (bp n cap : Nat) (a : Option Addr) (p : PSt) (w : World) (hp : PsAt w bp p) (hst : p.stack = .slice a n cap) (d : Nat) (hd : p.depth = d) (hn : n ≤ d + 1) (hn2 : d ≤ 1000000) :
    Calls Tryz.prog 143 #[.pointer (some ⟨bp, 0, none⟩)] w fun e w' => e = .returned .nilIface ∧ ∃ k, w' = w.drewN k := by
  have k4 := hp.stack
  have k5 := hp.depth
  rw [hst] at k4
  rw [hd] at k5
  clear hst hd
  have w1 : IntKind.i64.wrap ((d : Int) + 1) = d + 1 := IntWalk.i64_in _ (by omega)
  have w2 : ¬ ((d : Int) + 1 < n) := by omega
  go_enter Tryz.func143, Tryz.ntmps143
  go_wp2_with fail
  go_quiet (fail)
  go_wp2
  go_ret
  exact ⟨rfl, _, rfl⟩

set_option maxHeartbeats 1000000 in
theorem nextB_some (bp g n cap : Nat) (p : PSt) (w : World) (hp : PsAt w bp p) (hst : p.stack = .slice (some ⟨g, 0, none⟩) n cap) (d : Nat) (hd : p.depth = d) (hn : d + 1 < n) (hn2 : d ≤ 1000000)
    (v : Value) (hb : w.cell? ⟨g, (d + 1) * 4, none⟩ = some v) :
    Calls Tryz.prog 143 #[.pointer (some ⟨bp, 0, none⟩)] w fun e w' => e = .returned v ∧ ∃ k, w' = w.drewN k := by
  have k4 := hp.stack
  have k5 := hp.depth
  rw [hst] at k4
  rw [hd] at k5
  clear hst hd
  have w1 : IntKind.i64.wrap ((d : Int) + 1) = d + 1 := IntWalk.i64_in _ (by omega)
  have w2 : ((d : Int) + 1 < n) := by omega
  have w3 : 0 ≤ (d : Int) + 1 := by omega
  have w4 : ((d : Int) + 1).toNat = d + 1 := by omega
  go_enter Tryz.func143, Tryz.ntmps143
  go_wp2_with fail
  go_quiet (fail)
  go_wp2_with fail
  go_quiet (fail)
  go_wp2
  go_ret
  exact ⟨rfl, _, World.drewN_drewN _ _ _⟩

set_option maxHeartbeats 1000000 in
theorem curB_some (bp g n cap : Nat) (p : PSt) (w : World) (hp : PsAt w bp p) (hst : p.stack = .slice (some ⟨g, 0, none⟩) n cap) (d : Nat) (hd : p.depth = d) (hn : d < n) (hn2 : d ≤ 1000000)
    (v : Value) (hb : w.cell? ⟨g, d * 4, none⟩ = some v) :
    Calls Tryz.prog 148 #[.pointer (some ⟨bp, 0, none⟩)] w fun e w' => e = .returned v ∧ ∃ k, w' = w.drewN k := by
  have k4 := hp.stack
  have k5 := hp.depth
  rw [hst] at k4
  rw [hd] at k5
  clear hst hd
  have w2 : ((d : Int) < n) := by omega
  have w3 : 0 ≤ (d : Int) := by omega
  go_enter Tryz.func148, Tryz.ntmps148
  go_wp2_with fail
  go_quiet (fail)
  go_wp2_with fail
  go_quiet (fail)
  go_wp2
  go_ret
  exact ⟨rfl, _, World.drewN_drewN _ _ _⟩

set_option maxHeartbeats 1000000 in
theorem trimSetext_no (b : Nat) (q : Value) (text : ByteArray) (i : Nat) (nl : Int) (w : World) (hi : i ≤ text.size) (hT : Txt text) (hL : LineAt w b i text nl)
    (c1 : ((at0 text (p3 text i)).toNat : Int) ≠ 45) (c2 : ((at0 text (p3 text i)).toNat : Int) ≠ 61) :
    Calls Tryz.prog 144 #[.pointer (some ⟨b, 0, none⟩), q] w fun e w' => e = .returned (.bool false) ∧ Same w w' := by
  obtain ⟨h0, h1, h2, h3, h4, hf0, hf1, hf2, hf3, hf4, hbl⟩ := hL.facts
  have d1 := bne_of c1
  have d2 := bne_of c2
  clear c1 c2
  go_enter Tryz.func144, Tryz.ntmps144
  go_wp2_with fail
  generalize hW : (w.alloc _ : World) = W
  have hm0 : Same w W := by subst hW; exact (Mods.refl _ w).alloc _
  have hl : LineAt W (w.heap.size) i text nl := by subst hW; exact Blk.newAt _ _ rfl
  clear hW h0 h1 h2 h3 h4 hf0 hf1 hf2 hf3 hf4 hbl hL
  refine (trimSpace_03 _ text i nl W hi hT hl).mono ?_
  rintro e w1 ⟨rfl, hm1, hl1⟩
  have hk : Same w w1 := hm0.then hm1 (by intro b hb; omega)
  clear hl hm0 hm1
  go_wp2_with fail
  refine (peek_any _ _ _ _ _ hT.size hl1).mono ?_
  rintro e w2 ⟨rfl, n, rfl⟩
  clear hl1
  go_wp2
  go_ret
  exact ⟨rfl, hk.drewN n⟩

theorem eql_nil_para (v : Value) (w : World) : (binOp .eql 118 .nilIface (.iface 162 v)).run Tryz.prog w = .ok (.bool false) w := by kernel_rfl
theorem eql_iface_same {P : Program} (w : World) {ti tp te : TypeId} {ms : Array (String × TypeId)} {k j : TypeInfo} (a : Addr) (hi : P.underlying ti = some (.interface ms)) (hk : P.info? tp = some k) (hc : k.comparable = true)
    (hp : P.underlying tp = some (.pointer te)) (hte : P.info? te = some j) :
    (binOp .eql ti (.iface tp (.pointer (some a))) (.iface tp (.pointer (some a)))).run P w = .ok (.bool true) w := by
  have h : ∀ d : Nat, (Op.equalIn (d + 1) tp (.pointer (some a)) (.pointer (some a))).run P w = .ok true w := fun d => by
    simp [Op.equalIn, run_underlying hp, sizeOf, typeInfo, hte, run_sameAddr_same]
  have h2 : ∀ d : Nat, (Op.equalIn (d + 2) ti (.iface tp (.pointer (some a))) (.iface tp (.pointer (some a)))).run P w = .ok true w := fun d => by
    have h1 := h d
    rw [show d + 2 = (d + 1) + 1 by omega]
    generalize hX : Op.equalIn (d + 1) tp (.pointer (some a)) (.pointer (some a)) = X at h1
    simp [Op.equalIn, run_underlying hi, typeInfo, hk, hc]
    rw [← hX] at h1
    simp [run_underlying hp, sizeOf, typeInfo, hte, run_sameAddr_same]
  simp only [binOp]
  simp [Op.equal, Op.maxDepth, h2 9998]
theorem eql_para_para (a : Addr) (w : World) : (binOp .eql 118 (.iface 162 (.pointer (some a))) (.iface 162 (.pointer (some a)))).run Tryz.prog w = .ok (.bool true) w := by
  have hk0 : (Tryz.prog.info? 162).map (fun x => x.comparable) = some true := by kernel_rfl
  obtain ⟨k, hk, hc⟩ := Option.map_eq_some_iff.1 hk0
  have hj0 : (Tryz.prog.info? 166).isSome = true := by kernel_rfl
  obtain ⟨j, hj⟩ := Option.isSome_iff_exists.1 hj0
  exact eql_iface_same w a Tryz.underlying118 hk hc Tryz.underlying162 hj

/-- The four facts on a state whose only open block is the document: no paragraph is open. -/
structure NoPara (w : World) (bp g n cap : Nat) (p : PSt) (T : Nat) (v : Value) : Prop where
  at_ : PsAt w bp p
  stack : p.stack = .slice (some ⟨g, 0, none⟩) (n + 1) cap
  small : n ≤ 1000000
  top : w.cell? ⟨g, n * 4, none⟩ = some (.iface T v)
  other : T ≠ 162

theorem NoPara.same {w w' : World} {bp g n cap : Nat} {p : PSt} {T : Nat} {v : Value} (h : NoPara w bp g n cap p T v) (hm : Same w w') : NoPara w' bp g n cap p T v :=
  ⟨h.at_.same hm, h.stack, h.small, (World.cell?_of_block (hm.block g (World.block_lt_of_cell? _ _ h.top) (fun x => x))).trans h.top, h.other⟩

set_option maxHeartbeats 1000000 in
theorem newSetext_first (bp g n cap : Nat) (p : PSt) (T : Nat) (v : Value) (text : ByteArray) (i : Nat) (nl : Int) (w : World) (h : NoPara w bp g n cap p T v) (hd : p.depth = n) :
    Calls Tryz.prog 97 #[.pointer (some ⟨bp, 0, none⟩), LV i text nl] w fun e w' => e = .returned (.tuple #[LV i text nl, .bool false]) ∧ Same w w' := by
  have hq := eql_nil_para
  go_enter Tryz.func97, Tryz.ntmps97
  go_wp2_with fail
  generalize hW : ((((w.alloc _).alloc _).alloc _).alloc _ : World) = W
  have hm0 : Same w W := by subst hW; exact ((((Mods.refl _ w).alloc _).alloc _).alloc _).alloc _
  have hb : LineAt W w.heap.size i text nl := by subst hW; exact (((Blk.newAt _ _ rfl).alloc _).alloc _).alloc _
  have hr : LineAt W (w.heap.size + 1) 0 ⟨#[]⟩ 0 := by subst hW; exact ((Blk.newAt _ _ (by simp)).alloc _).alloc _
  clear hW
  have h1 := h.same hm0
  refine (nextB_nil bp _ _ _ p W h1.at_ h1.stack n hd (Nat.le_refl _) h1.small).mono ?_
  rintro e w1 ⟨rfl, n1, rfl⟩
  go_wp2_with fail
  refine (para_other bp g n cap p T v _ (h1.at_.drewN n1) h1.stack h1.small h1.top h1.other).mono ?_
  rintro e w2 ⟨rfl, n2, rfl⟩
  obtain ⟨g0, g1, g2, g3, g4, gf0, gf1, gf2, gf3, gf4, gbl⟩ := LineAt.facts hb
  obtain ⟨r0, r1, r2, r3, r4, rf0, rf1, rf2, rf3, rf4, rbl⟩ := LineAt.facts hr
  clear hb h1 h hd
  go_wp2
  exact bodyPost_ret (v := .tuple #[LV i text nl, .bool false]) (by simp [results, Tryz.results97, go_sem, r0, r1, r2, r3, r4]) rfl ⟨rfl, by
    exact hm0.then (((Mods.refl _ _).drewN _).trans (put5 (Blk.drewN hr _) i text nl).1) (by intro b hb; omega)⟩

set_option maxHeartbeats 1000000 in
theorem newPre_first (bp g n cap : Nat) (p : PSt) (T : Nat) (v : Value) (text : ByteArray) (i : Nat) (nl : Int) (w : World) (hi : i ≤ text.size) (hT : Txt text) (h : NoPara w bp g n cap p T v)
    (c1 : at0 text (p3 text i) ≠ 32) :
    Calls Tryz.prog 102 #[.pointer (some ⟨bp, 0, none⟩), LV i text nl] w fun e w' => e = .returned (.tuple #[LV i text nl, .bool false]) ∧ Same w w' := by
  have hno : trimOk text i 4 4 false = false := by
    have h4 := lead4_lt c1
    simp [trimOk]; omega
  go_enter Tryz.func102, Tryz.ntmps102
  go_wp2_with fail
  generalize hW : (((w.alloc _).alloc _).alloc _ : World) = W
  have hm0 : Same w W := by subst hW; exact (((Mods.refl _ w).alloc _).alloc _).alloc _
  have hb : LineAt W w.heap.size i text nl := by subst hW; exact ((Blk.newAt _ _ rfl).alloc _).alloc _
  have hr : LineAt W (w.heap.size + 1) 0 ⟨#[]⟩ 0 := by subst hW; exact (Blk.newAt _ _ (by simp)).alloc _
  have hl : LineAt W (w.heap.size + 1 + 1) i text nl := by subst hW; exact Blk.newAt _ _ (by simp)
  clear hW
  have h1 := h.same hm0
  refine (para_other bp g n cap p T v _ h1.at_ h1.stack h1.small h1.top h1.other).mono ?_
  rintro e w1 ⟨rfl, n1, rfl⟩
  have hd1 : Same W (W.drewN n1) := (Mods.refl _ W).drewN n1
  have hb1 := Same.blk hd1 hb
  have hr1 := Same.blk hd1 hr
  have hl1 := Same.blk hd1 hl
  have hk := hm0.trans hd1
  generalize W.drewN n1 = W1 at *
  clear hb hr hl hm0 hd1
  go_wp2_with fail
  refine (trimSpace_any _ text i 4 4 false nl W1 (by omega) (by omega) hi hT hl1).mono ?_
  rintro e w2 ⟨rfl, hm2, hl2⟩
  rw [hno]
  have hb2 := Blk.keep1 hb1 hm2 (by omega)
  have hr2 := Blk.keep1 hr1 hm2 (by omega)
  have hk2 : Same w w2 := hk.then hm2 (by intro b hb; omega)
  obtain ⟨g0, g1, g2, g3, g4, gf0, gf1, gf2, gf3, gf4, gbl⟩ := LineAt.facts hb2
  obtain ⟨r0, r1, r2, r3, r4, rf0, rf1, rf2, rf3, rf4, rbl⟩ := LineAt.facts hr2
  clear hb1 hr1 hl1 hb2 hm2 hl2 hno h h1 c1
  go_wp2
  exact bodyPost_ret (v := .tuple #[LV i text nl, .bool false]) (by simp [results, Tryz.results102, go_sem, r0, r1, r2, r3, r4]) rfl ⟨rfl, by
    exact hk2.then ((put5 hr2 i text nl).1) (by intro b hb; omega)⟩
end Go.Proofs.YtdnlfdppjfjncaaGreatDoor
