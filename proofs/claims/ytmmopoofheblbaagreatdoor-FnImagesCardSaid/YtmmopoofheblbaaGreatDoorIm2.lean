/- Some texts of one proof, put into one file: State2, State3, Append, Stack, Para, Build. -/
import Derived.Deep.AppendLies
import Derived.Test.YtmmopoofheblbaaGreatDoorIm1
/- Further functions that only look at the parser's state; the trials for headings with a line under them, code, fences, lists. -/
namespace Go.Proofs.YtmmopoofheblbaaGreatDoor
open Go Go.RowKit Go.Proofs

set_option maxHeartbeats 1000000 in
theorem nextB_nil (bp n cap : Nat) (a : Option Addr) (p : PSt) (w : World) (hp : PsAt w bp p) (hst : p.stack = .slice a n cap) (d : Nat) (hd : p.depth = d) (hn : n ≤ d + 1) (hn2 : d ≤ 1000000) :
    Calls Tryz.prog 222 #[.pointer (some ⟨bp, 0, none⟩)] w fun e w' => e = .returned .nilIface ∧ ∃ k, w' = w.drewN k := by
  have k4 := hp.stack
  have k5 := hp.depth
  rw [hst] at k4
  rw [hd] at k5
  clear hst hd
  have w1 : IntKind.i64.wrap ((d : Int) + 1) = d + 1 := IntWalk.i64_in _ (by omega)
  have w2 : ¬ ((d : Int) + 1 < n) := by omega
  go_enter Tryz.func222, Tryz.ntmps222
  go_wp2_with fail
  go_quiet (fail)
  go_wp2
  go_ret
  exact ⟨rfl, _, rfl⟩

set_option maxHeartbeats 1000000 in
theorem nextB_some (bp g n cap : Nat) (p : PSt) (w : World) (hp : PsAt w bp p) (hst : p.stack = .slice (some ⟨g, 0, none⟩) n cap) (d : Nat) (hd : p.depth = d) (hn : d + 1 < n) (hn2 : d ≤ 1000000)
    (v : Value) (hb : w.cell? ⟨g, (d + 1) * 4, none⟩ = some v) :
    Calls Tryz.prog 222 #[.pointer (some ⟨bp, 0, none⟩)] w fun e w' => e = .returned v ∧ ∃ k, w' = w.drewN k := by
  have k4 := hp.stack
  have k5 := hp.depth
  rw [hst] at k4
  rw [hd] at k5
  clear hst hd
  have w1 : IntKind.i64.wrap ((d : Int) + 1) = d + 1 := IntWalk.i64_in _ (by omega)
  have w2 : ((d : Int) + 1 < n) := by omega
  have w3 : 0 ≤ (d : Int) + 1 := by omega
  have w4 : ((d : Int) + 1).toNat = d + 1 := by omega
  go_enter Tryz.func222, Tryz.ntmps222
  go_wp2_with fail
  go_quiet (fail)
  go_wp2_with fail
  go_quiet (fail)
  go_wp2
  go_ret
  exact ⟨rfl, _, World.drewN_drewN _ _ _⟩

set_option maxHeartbeats 1000000 in
theorem curB_some (bp g n cap : Nat) (p : PSt) (w : World) (hp : PsAt w bp p) (hst : p.stack = .slice (some ⟨g, 0, none⟩) n cap) (d : Nat) (hd : p.depth = d) (hn : d < n) (hn2 : d ≤ 1000000)
    (v : Value) (hb : w.cell? ⟨g, d * 4, none⟩ = some v) :
    Calls Tryz.prog 227 #[.pointer (some ⟨bp, 0, none⟩)] w fun e w' => e = .returned v ∧ ∃ k, w' = w.drewN k := by
  have k4 := hp.stack
  have k5 := hp.depth
  rw [hst] at k4
  rw [hd] at k5
  clear hst hd
  have w2 : ((d : Int) < n) := by omega
  have w3 : 0 ≤ (d : Int) := by omega
  go_enter Tryz.func227, Tryz.ntmps227
  go_wp2_with fail
  go_quiet (fail)
  go_wp2_with fail
  go_quiet (fail)
  go_wp2
  go_ret
  exact ⟨rfl, _, World.drewN_drewN _ _ _⟩

set_option maxHeartbeats 1000000 in
theorem trimSetext_no (b : Nat) (q : Value) (text : ByteArray) (i : Nat) (nl : Int) (w : World) (hi : i ≤ text.size) (hT : Txt text) (hL : LineAt w b i text nl)
    (c1 : ((at0 text (p3 text i)).toNat : Int) ≠ 45) (c2 : ((at0 text (p3 text i)).toNat : Int) ≠ 61) :
    Calls Tryz.prog 223 #[.pointer (some ⟨b, 0, none⟩), q] w fun e w' => e = .returned (.bool false) ∧ Same w w' := by
  obtain ⟨h0, h1, h2, h3, h4, hf0, hf1, hf2, hf3, hf4, hbl⟩ := hL.facts
  have d1 := bne_of c1
  have d2 := bne_of c2
  clear c1 c2
  go_enter Tryz.func223, Tryz.ntmps223
  go_wp2_with fail
  generalize hW : (w.alloc _ : World) = W
  have hm0 : Same w W := by subst hW; exact (Mods.refl _ w).alloc _
  have hl : LineAt W (w.heap.size) i text nl := by subst hW; exact Blk.newAt _ _ rfl
  clear hW h0 h1 h2 h3 h4 hf0 hf1 hf2 hf3 hf4 hbl hL
  refine (trimSpace_03 _ text i nl W hi hT hl).mono ?_
  rintro e w1 ⟨rfl, hm1, hl1⟩
  have hk : Same w w1 := hm0.then hm1 (by intro b hb; omega)
  clear hl hm0 hm1
  go_wp2_with fail
  refine (peek_any _ _ _ _ _ hT.size hl1).mono ?_
  rintro e w2 ⟨rfl, n, rfl⟩
  clear hl1
  go_wp2
  go_ret
  exact ⟨rfl, hk.drewN n⟩

theorem eql_nil_para (v : Value) (w : World) : (binOp .eql 237 .nilIface (.iface 287 v)).run Tryz.prog w = .ok (.bool false) w := by kernel_rfl
theorem eql_iface_same {P : Program} (w : World) {ti tp te : TypeId} {ms : Array (String × TypeId)} {k j : TypeInfo} (a : Addr) (hi : P.underlying ti = some (.interface ms)) (hk : P.info? tp = some k) (hc : k.comparable = true)
    (hp : P.underlying tp = some (.pointer te)) (hte : P.info? te = some j) :
    (binOp .eql ti (.iface tp (.pointer (some a))) (.iface tp (.pointer (some a)))).run P w = .ok (.bool true) w := by
  have h : ∀ d : Nat, (Op.equalIn (d + 1) tp (.pointer (some a)) (.pointer (some a))).run P w = .ok true w := fun d => by
    simp [Op.equalIn, run_underlying hp, sizeOf, typeInfo, hte, run_sameAddr_same]
  have h2 : ∀ d : Nat, (Op.equalIn (d + 2) ti (.iface tp (.pointer (some a))) (.iface tp (.pointer (some a)))).run P w = .ok true w := fun d => by
    have h1 := h d
    rw [show d + 2 = (d + 1) + 1 by omega]
    generalize hX : Op.equalIn (d + 1) tp (.pointer (some a)) (.pointer (some a)) = X at h1
    simp [Op.equalIn, run_underlying hi, typeInfo, hk, hc]
    rw [← hX] at h1
    simp [run_underlying hp, sizeOf, typeInfo, hte, run_sameAddr_same]
  simp only [binOp]
  simp [Op.equal, Op.maxDepth, h2 9998]
theorem eql_para_para (a : Addr) (w : World) : (binOp .eql 237 (.iface 287 (.pointer (some a))) (.iface 287 (.pointer (some a)))).run Tryz.prog w = .ok (.bool true) w := by
  have hk0 : (Tryz.prog.info? 287).map (fun x => x.comparable) = some true := by kernel_rfl
  obtain ⟨k, hk, hc⟩ := Option.map_eq_some_iff.1 hk0
  have hj0 : (Tryz.prog.info? 291).isSome = true := by kernel_rfl
  obtain ⟨j, hj⟩ := Option.isSome_iff_exists.1 hj0
  exact eql_iface_same w a Tryz.underlying237 hk hc Tryz.underlying287 hj

/-- The four facts on a state whose only open block is the document: no paragraph is open. -/
structure NoPara (w : World) (bp g n cap : Nat) (p : PSt) (T : Nat) (v : Value) : Prop where
  at_ : PsAt w bp p
  stack : p.stack = .slice (some ⟨g, 0, none⟩) (n + 1) cap
  small : n ≤ 1000000
  top : w.cell? ⟨g, n * 4, none⟩ = some (.iface T v)
  other : T ≠ 287

theorem NoPara.same {w w' : World} {bp g n cap : Nat} {p : PSt} {T : Nat} {v : Value} (h : NoPara w bp g n cap p T v) (hm : Same w w') : NoPara w' bp g n cap p T v :=
  ⟨h.at_.same hm, h.stack, h.small, (World.cell?_of_block (hm.block g (World.block_lt_of_cell? _ _ h.top) (fun x => x))).trans h.top, h.other⟩

set_option maxHeartbeats 1000000 in
theorem newSetext_first (bp g n cap : Nat) (p : PSt) (T : Nat) (v : Value) (text : ByteArray) (i : Nat) (nl : Int) (w : World) (h : NoPara w bp g n cap p T v) (hd : p.depth = n) :
    Calls Tryz.prog 166 #[.pointer (some ⟨bp, 0, none⟩), LV i text nl] w fun e w' => e = .returned (.tuple #[LV i text nl, .bool false]) ∧ Same w w' := by
  have hq := eql_nil_para
  go_enter Tryz.func166, Tryz.ntmps166
  go_wp2_with fail
  generalize hW : ((((w.alloc _).alloc _).alloc _).alloc _ : World) = W
  have hm0 : Same w W := by subst hW; exact ((((Mods.refl _ w).alloc _).alloc _).alloc _).alloc _
  have hb : LineAt W w.heap.size i text nl := by subst hW; exact (((Blk.newAt _ _ rfl).alloc _).alloc _).alloc _
  have hr : LineAt W (w.heap.size + 1) 0 ⟨#[]⟩ 0 := by subst hW; exact ((Blk.newAt _ _ (by simp)).alloc _).alloc _
  clear hW
  have h1 := h.same hm0
  refine (nextB_nil bp _ _ _ p W h1.at_ h1.stack n hd (Nat.le_refl _) h1.small).mono ?_
  rintro e w1 ⟨rfl, n1, rfl⟩
  go_wp2_with fail
  refine (para_other bp g n cap p T v _ (h1.at_.drewN n1) h1.stack h1.small h1.top h1.other).mono ?_
  rintro e w2 ⟨rfl, n2, rfl⟩
  obtain ⟨g0, g1, g2, g3, g4, gf0, gf1, gf2, gf3, gf4, gbl⟩ := LineAt.facts hb
  obtain ⟨r0, r1, r2, r3, r4, rf0, rf1, rf2, rf3, rf4, rbl⟩ := LineAt.facts hr
  clear hb h1 h hd
  go_wp2
  exact bodyPost_ret (v := .tuple #[LV i text nl, .bool false]) (by simp [results, Tryz.results166, go_sem, r0, r1, r2, r3, r4]) rfl ⟨rfl, by
    exact hm0.then (((Mods.refl _ _).drewN _).trans (put5 (Blk.drewN hr _) i text nl).1) (by intro b hb; omega)⟩

set_option maxHeartbeats 1000000 in
theorem newPre_first (bp g n cap : Nat) (p : PSt) (T : Nat) (v : Value) (text : ByteArray) (i : Nat) (nl : Int) (w : World) (hi : i ≤ text.size) (hT : Txt text) (h : NoPara w bp g n cap p T v)
    (c1 : at0 text (p3 text i) ≠ 32) :
    Calls Tryz.prog 171 #[.pointer (some ⟨bp, 0, none⟩), LV i text nl] w fun e w' => e = .returned (.tuple #[LV i text nl, .bool false]) ∧ Same w w' := by
  have hno : trimOk text i 4 4 false = false := by
    have h4 := lead4_lt c1
    simp [trimOk]; omega
  go_enter Tryz.func171, Tryz.ntmps171
  go_wp2_with fail
  generalize hW : (((w.alloc _).alloc _).alloc _ : World) = W
  have hm0 : Same w W := by subst hW; exact (((Mods.refl _ w).alloc _).alloc _).alloc _
  have hb : LineAt W w.heap.size i text nl := by subst hW; exact ((Blk.newAt _ _ rfl).alloc _).alloc _
  have hr : LineAt W (w.heap.size + 1) 0 ⟨#[]⟩ 0 := by subst hW; exact (Blk.newAt _ _ (by simp)).alloc _
  have hl : LineAt W (w.heap.size + 1 + 1) i text nl := by subst hW; exact Blk.newAt _ _ (by simp)
  clear hW
  have h1 := h.same hm0
  refine (para_other bp g n cap p T v _ h1.at_ h1.stack h1.small h1.top h1.other).mono ?_
  rintro e w1 ⟨rfl, n1, rfl⟩
  have hd1 : Same W (W.drewN n1) := (Mods.refl _ W).drewN n1
  have hb1 := Same.blk hd1 hb
  have hr1 := Same.blk hd1 hr
  have hl1 := Same.blk hd1 hl
  have hk := hm0.trans hd1
  generalize W.drewN n1 = W1 at *
  clear hb hr hl hm0 hd1
  go_wp2_with fail
  refine (trimSpace_any _ text i 4 4 false nl W1 (by omega) (by omega) hi hT hl1).mono ?_
  rintro e w2 ⟨rfl, hm2, hl2⟩
  rw [hno]
  have hb2 := Blk.keep1 hb1 hm2 (by omega)
  have hr2 := Blk.keep1 hr1 hm2 (by omega)
  have hk2 : Same w w2 := hk.then hm2 (by intro b hb; omega)
  obtain ⟨g0, g1, g2, g3, g4, gf0, gf1, gf2, gf3, gf4, gbl⟩ := LineAt.facts hb2
  obtain ⟨r0, r1, r2, r3, r4, rf0, rf1, rf2, rf3, rf4, rbl⟩ := LineAt.facts hr2
  clear hb1 hr1 hl1 hb2 hm2 hl2 hno h h1 c1
  go_wp2
  exact bodyPost_ret (v := .tuple #[LV i text nl, .bool false]) (by simp [results, Tryz.results171, go_sem, r0, r1, r2, r3, r4]) rfl ⟨rfl, by
    exact hk2.then ((put5 hr2 i text nl).1) (by intro b hb; omega)⟩
end Go.Proofs.YtmmopoofheblbaaGreatDoor

/- The trials for fences and items of lists, where the line begins none. -/
namespace Go.Proofs.YtmmopoofheblbaaGreatDoor
open Go Go.RowKit Go.Proofs

theorem at0_eq {text : ByteArray} {i : Nat} (h : i < text.size) : at0 text i = text[i] := by simp [at0, h]

/-- Of the first n spaces, taken one by one. -/
theorem lead_one {text : ByteArray} {i k : Nat} (h : lead text i k = k) (hs : at0 text (i + k) = 32) : lead text i (k + 1) = k + 1 := by
  rw [lead_step text k i h]
  unfold at0 at hs
  split at hs
  · rename_i h1
    rw [dif_pos h1, if_pos hs]
  · cases hs
theorem lead_all {text : ByteArray} {i k m : Nat} (h : lead text i k = k) (hs : at0 text (i + k) ≠ 32) : lead text i (k + m) = k := by
  refine lead_stop text k i m h (fun h1 e => hs ?_)
  simp [at0, h1, e]

def FRel (w wr : World) (bt bn : Nat) (text : ByteArray) (i k : Nat) (nl : Int) : Prop :=
  k ≤ 3 ∧ lead text i k = k ∧ Mods (fun b => b = bt ∨ b = bn) w wr ∧ LineAt wr bt (i + k) text nl ∧ Blk wr bn #[.int .i64 k] 3

set_option maxHeartbeats 1000000 in
theorem trimFence_no (b bn : Nat) (f g : Value) (x : Int) (text : ByteArray) (i : Nat) (nl : Int) (w : World) (hi : i ≤ text.size) (hT : Txt text) (hL : LineAt w b i text nl)
    (hn : Blk w bn #[.int .i64 x] 3) (c1 : ((at0 text (p3 text i)).toNat : Int) ≠ 96) (c2 : ((at0 text (p3 text i)).toNat : Int) ≠ 126) :
    Calls Tryz.prog 230 #[.pointer (some ⟨b, 0, none⟩), f, g, .pointer (some ⟨bn, 0, none⟩)] w
      fun e w' => e = .returned (.bool false) ∧ Mods (fun k => k = bn) w w' ∧ ∃ y : Nat, Blk w' bn #[.int .i64 y] 3 := by
  obtain ⟨h0, h1, h2, h3, h4, hf0, hf1, hf2, hf3, hf4, hbl⟩ := hL.facts
  have d1 := bne_of c1
  have d2 := bne_of c2
  have n0 : w.cell? ⟨bn, 0, none⟩ = some (.int .i64 x) := hn.cell 0
  have nf : w.frozen? ⟨bn, 0, none⟩ = false := hn.fr 0
  have nb : bn < w.heap.size := hn.lt
  go_enter Tryz.func230, Tryz.ntmps230
  go_wp2
  go_loopg [] 3 (fun g wr => ∃ k : Nat, g = 3 - k ∧ FRel w wr w.heap.size bn text i k nl)
  case atStart =>
    refine ⟨0, rfl, by omega, rfl, ?_, ?_, ?_⟩
    · exact ((Mods.refl (fun b => b = w.heap.size ∨ b = bn) w).setCell (p := ⟨bn, 0, none⟩) (fun _ => Or.inr rfl) _).alloc _
    · exact Blk.newAt _ _ (by simp)
    · exact (hn.set_same 0 _).alloc _
  case round =>
    obtain ⟨k, hg, hk3, hlk, hmw, hlw, hnw⟩ := hrel
    have HG := Lib.hid hg
    have HK := Lib.hid hlk
    clear hg hlk h0 h1 h2 h3 h4 hf0 hf1 hf2 hf3 hf4 n0 nf hL hn
    have n0 : wr.cell? ⟨bn, 0, none⟩ = some (.int .i64 k) := hnw.cell 0
    have nf : wr.frozen? ⟨bn, 0, none⟩ = false := hnw.fr 0
    have nbw : bn < wr.heap.size := hnw.lt
    have hik : i + k ≤ text.size := by have := (lead_le text k i).2 hi; have := HK.out; omega
    by_cases hlt : k < 3
    · go_wp2_with fail
      refine (trimSpace_11 _ text (i + k) false nl wr hik hT hlw).mono ?_
      rintro e w1 (⟨hs, rfl, hm1, hl1⟩ | ⟨hs, rfl, hm1, hl1⟩)
      · have hn1 := hnw.keep1 hm1 (by omega)
        clear n0 nf nbw
        have n0 : w1.cell? ⟨bn, 0, none⟩ = some (.int .i64 k) := hn1.cell 0
        have nf : w1.frozen? ⟨bn, 0, none⟩ = false := hn1.fr 0
        have nbw : bn < w1.heap.size := hn1.lt
        have HS := Lib.hid hs
        clear hs
        go_wp2
        go_roundg (3 - (k + 1))
        case measure => have := HG.out; omega
        case rel =>
          refine ⟨k + 1, rfl, by omega, lead_one HK.out HS.out, ?_, ?_, ?_⟩
          · exact (hmw.then hm1 (by intro b _ hb; exact Or.inl hb)).setCell (p := ⟨bn, 0, none⟩) (fun _ => Or.inr rfl) _
          · exact Blk.set_other hl1 (by show bn ≠ _; omega) _
          · exact hn1.set_same 0 _
      · have e1 : lead text i 3 = k := by
          have := lead_all (m := 3 - k) HK.out hs
          rwa [show k + (3 - k) = 3 by omega] at this
        have hn1 := hnw.keep1 hm1 (by omega)
        have hp : i + k = p3 text i := by unfold p3; rw [e1]
        clear e1 hs n0 nf nbw
        rw [hp] at hl1
        clear hp
        go_wp2_with fail
        refine (peek_any _ _ _ _ _ hT.size hl1).mono ?_
        rintro e w2 ⟨rfl, n, rfl⟩
        go_wp2
        go_ret
        refine ⟨rfl, ?_, k, hn1.drewN n⟩
        have hmm := (hmw.then hm1 (S' := fun k => k = w.heap.size) (by intro b _ hb; exact Or.inl hb)).drewN n
        exact hmm.mono (by intro b hb hs; rcases hs with hs | hs; exact absurd hs (by omega); exact hs)
    · have hk : k = 3 := by omega
      subst hk
      have hp : i + 3 = p3 text i := by unfold p3; rw [HK.out]
      rw [hp] at hlw
      clear hp
      go_wp2_with fail
      refine (peek_any _ _ _ _ _ hT.size hlw).mono ?_
      rintro e w2 ⟨rfl, n, rfl⟩
      go_wp2
      go_ret
      refine ⟨rfl, ?_, 3, hnw.drewN n⟩
      exact (hmw.drewN n).mono (by intro b hb hs; rcases hs with hs | hs; exact absurd hs (by omega); exact hs)

set_option maxRecDepth 100000 in
set_option maxHeartbeats 1000000 in
theorem newFence_no (q : Value) (text : ByteArray) (i : Nat) (nl : Int) (w : World) (hi : i ≤ text.size) (hT : Txt text)
    (c1 : ((at0 text (p3 text i)).toNat : Int) ≠ 96) (c2 : ((at0 text (p3 text i)).toNat : Int) ≠ 126) :
    Calls Tryz.prog 170 #[q, LV i text nl] w fun e w' => e = .returned (.tuple #[LV i text nl, .bool false]) ∧ Same w w' := by
  go_enter Tryz.func170, Tryz.ntmps170
  go_wp2_with fail
  generalize hW : ((((((w.alloc _).alloc _).alloc _).alloc _).alloc _).alloc _ : World) = W
  have hm0 : Same w W := by subst hW; exact ((((((Mods.refl _ w).alloc _).alloc _).alloc _).alloc _).alloc _).alloc _
  have hb : LineAt W w.heap.size i text nl := by subst hW; exact (((((Blk.newAt _ _ rfl).alloc _).alloc _).alloc _).alloc _).alloc _
  have hr : LineAt W (w.heap.size + 1) 0 ⟨#[]⟩ 0 := by subst hW; exact ((((Blk.newAt _ _ (by simp)).alloc _).alloc _).alloc _).alloc _
  have hn : Blk W (w.heap.size + 1 + 1 + 1 + 1) #[.int .i64 0] 3 := by subst hW; exact (Blk.newAt _ _ (by simp)).alloc _
  have hl : LineAt W (w.heap.size + 1 + 1 + 1 + 1 + 1) i text nl := by subst hW; exact Blk.newAt _ _ (by simp)
  clear hW
  refine (trimFence_no _ _ _ _ _ text i nl W hi hT hl hn c1 c2).mono ?_
  rintro e w1 ⟨rfl, hm1, y, hy⟩
  have hk : Same w w1 := hm0.then hm1 (by intro b hb; omega)
  have hb1 := Blk.keep1 hb hm1 (by omega)
  have hr1 := Blk.keep1 hr hm1 (by omega)
  obtain ⟨g0, g1, g2, g3, g4, gf0, gf1, gf2, gf3, gf4, gbl⟩ := LineAt.facts hb1
  obtain ⟨r0, r1, r2, r3, r4, rf0, rf1, rf2, rf3, rf4, rbl⟩ := LineAt.facts hr1
  clear hb hr hb1 hm1 hm0 hl hn hy c1 c2
  go_wp2
  exact bodyPost_ret (v := .tuple #[LV i text nl, .bool false]) (by simp [results, Tryz.results170, go_sem, r0, r1, r2, r3, r4]) rfl ⟨rfl, by
    exact hk.then ((put5 hr1 i text nl).1) (by intro b hb; omega)⟩
end Go.Proofs.YtmmopoofheblbaaGreatDoor

/- append of one element, type by type. -/
namespace Go.Proofs.YtmmopoofheblbaaGreatDoor
open Go Go.RowKit Go.Proofs

theorem ap1 {P : Program} {w : World} {ops : Array Oper} {rest : List Oper} {o : Oper} {a : Act} {Q : Exit → Act → World → Prop} (hgd : o.guard = none) (s x : Operand) (t e size bytes : Nat)
    (ho : o.op = .call { callee := .builtin .append, args := #[s, x], argTypes := #[t, t] }) (z : Value)
    (ht : P.underlying t = some (.slice e)) (hi : (P.info? e).map (fun i => (i.zero, i.size, i.bytes)) = some (some z, size, bytes)) (hzs : z.cells.size = size) (hsz : 0 < size) (hby : bytes ≤ 100)
    (v : Value) (n : Nat) (xs : List Value) (hs : a.eval s = v) (hown : w.ownsRow 0 e size v n xs)
    (b c : Nat) (news : List Value) (hx : a.eval x = .slice (some ⟨b, 0, none⟩) 1 c) (hl : news.length = size) (hnews : ∀ j u, news[j]? = some u → w.cell? ⟨b, j, none⟩ = some u)
    (h1 : ∀ u ∈ news, u.oneCell' = true) (hn : n ≤ 1000000)
    (h : ∀ g cap w', w'.ownsRow 0 e size (.slice (some ⟨g, 0, none⟩) (n + 1) cap) (n + 1) (xs ++ news) → w.grownBy w' v.ownBlock → (v.ownBlock = some g ∨ g = w.heap.size) → wpList P ops Q rest (a.put o.dst (.slice (some ⟨g, 0, none⟩) (n + 1) cap)) w') : wpList P ops Q (o :: rest) a w := by
  obtain ⟨i0, hi0, hz⟩ := Option.map_eq_some_iff.1 hi
  simp only [Prod.mk.injEq] at hz
  obtain ⟨hz0, hz1, hz2⟩ := hz
  refine wpList_append_lies w hgd s x t ho 0 e i0 z size bytes ht hi0 hz0 hz1 hz2 hzs hsz v n xs hs hown ⟨b, 0, none⟩ 1 c news hx (by omega) ?_ h1 (by omega) (by unfold maxLen; omega) ?_ (Nat.zero_le _) _ rfl (fun g cap w' h2 h3 h4 _ => h g cap w' h2 h3 h4)
  · intro j u hu
    have := hnews j u hu
    simpa [Addr.add_lit] using this
  · have : (n + 1) * bytes ≤ 1000001 * 100 := Nat.mul_le_mul (by omega) hby
    omega

/-- What may have been written by an append onto v. -/
theorem grown_mods {w w' : World} {v : Value} (h : w.grownBy w' v.ownBlock) : Mods (fun k => v.ownBlock = some k) w w' :=
  ⟨h.os, h.tape, h.output, h.size, fun k hk hn => h.block k hk (fun e => hn e.symm)⟩

section
variable {w : World} {ops : Array Oper} {rest : List Oper} {o : Oper} {a : Act} {Q : Exit → Act → World → Prop}

theorem ap_ob (hgd : o.guard = none) (s x : Operand) (ho : o.op = .call { callee := .builtin .append, args := #[s, x], argTypes := #[161, 161] })
    (v : Value) (n : Nat) (xs : List Value) (hs : a.eval s = v) (hown : w.ownsRow 0 239 4 v n xs)
    (b c : Nat) (news : List Value) (hx : a.eval x = .slice (some ⟨b, 0, none⟩) 1 c) (hl : news.length = 4) (hnews : ∀ j u, news[j]? = some u → w.cell? ⟨b, j, none⟩ = some u)
    (h1 : ∀ u ∈ news, u.oneCell' = true) (hn : n ≤ 1000000)
    (h : ∀ g cap w', w'.ownsRow 0 239 4 (.slice (some ⟨g, 0, none⟩) (n + 1) cap) (n + 1) (xs ++ news) → w.grownBy w' v.ownBlock → (v.ownBlock = some g ∨ g = w.heap.size) → wpList Tryz.prog ops Q rest (a.put o.dst (.slice (some ⟨g, 0, none⟩) (n + 1) cap)) w') : wpList Tryz.prog ops Q (o :: rest) a w :=
  ap1 hgd s x 161 239 4 56 ho (.agg #[.nilIface, .slice none 0 0, .int .i64 0, .int .i64 0]) Tryz.underlying161 (by kernel_rfl) rfl (by decide) (by decide) v n xs hs hown b c news hx hl hnews h1 hn h

theorem ap_str (hgd : o.guard = none) (s x : Operand) (ho : o.op = .call { callee := .builtin .append, args := #[s, x], argTypes := #[34, 34] })
    (v : Value) (n : Nat) (xs : List Value) (hs : a.eval s = v) (hown : w.ownsRow 0 9 1 v n xs)
    (b c : Nat) (u : ByteArray) (hx : a.eval x = .slice (some ⟨b, 0, none⟩) 1 c) (hu : w.cell? ⟨b, 0, none⟩ = some (.string u)) (hn : n ≤ 1000000)
    (h : ∀ g cap w', w'.ownsRow 0 9 1 (.slice (some ⟨g, 0, none⟩) (n + 1) cap) (n + 1) (xs ++ [.string u]) → w.grownBy w' v.ownBlock → (v.ownBlock = some g ∨ g = w.heap.size) → wpList Tryz.prog ops Q rest (a.put o.dst (.slice (some ⟨g, 0, none⟩) (n + 1) cap)) w') : wpList Tryz.prog ops Q (o :: rest) a w :=
  ap1 hgd s x 34 9 1 16 ho (.string ⟨#[]⟩) Tryz.underlying34 (by kernel_rfl) rfl (by decide) (by decide) v n xs hs hown b c [.string u] hx rfl
    (fun j y hy => by cases j with
      | zero => simp at hy; subst hy; exact hu
      | succ j => simp at hy) (fun y hy => by simp at hy; subst hy; rfl) hn h

theorem ap_blk (hgd : o.guard = none) (s x : Operand) (ho : o.op = .call { callee := .builtin .append, args := #[s, x], argTypes := #[109, 109] })
    (v : Value) (n : Nat) (xs : List Value) (hs : a.eval s = v) (hown : w.ownsRow 0 91 1 v n xs)
    (b c T : Nat) (u : Value) (hx : a.eval x = .slice (some ⟨b, 0, none⟩) 1 c) (hu : w.cell? ⟨b, 0, none⟩ = some (.iface T u)) (hn : n ≤ 1000000)
    (h : ∀ g cap w', w'.ownsRow 0 91 1 (.slice (some ⟨g, 0, none⟩) (n + 1) cap) (n + 1) (xs ++ [.iface T u]) → w.grownBy w' v.ownBlock → (v.ownBlock = some g ∨ g = w.heap.size) → wpList Tryz.prog ops Q rest (a.put o.dst (.slice (some ⟨g, 0, none⟩) (n + 1) cap)) w') : wpList Tryz.prog ops Q (o :: rest) a w :=
  ap1 hgd s x 109 91 1 16 ho .nilIface Tryz.underlying109 (by kernel_rfl) rfl (by decide) (by decide) v n xs hs hown b c [.iface T u] hx rfl
    (fun j y hy => by cases j with
      | zero => simp at hy; subst hy; exact hu
      | succ j => simp at hy) (fun y hy => by simp at hy; subst hy; rfl) hn h

theorem ap_inl (hgd : o.guard = none) (s x : Operand) (ho : o.op = .call { callee := .builtin .append, args := #[s, x], argTypes := #[84, 84] })
    (v : Value) (n : Nat) (xs : List Value) (hs : a.eval s = v) (hown : w.ownsRow 0 157 1 v n xs)
    (b c T : Nat) (u : Value) (hx : a.eval x = .slice (some ⟨b, 0, none⟩) 1 c) (hu : w.cell? ⟨b, 0, none⟩ = some (.iface T u)) (hn : n ≤ 1000000)
    (h : ∀ g cap w', w'.ownsRow 0 157 1 (.slice (some ⟨g, 0, none⟩) (n + 1) cap) (n + 1) (xs ++ [.iface T u]) → w.grownBy w' v.ownBlock → (v.ownBlock = some g ∨ g = w.heap.size) → wpList Tryz.prog ops Q rest (a.put o.dst (.slice (some ⟨g, 0, none⟩) (n + 1) cap)) w') : wpList Tryz.prog ops Q (o :: rest) a w :=
  ap1 hgd s x 84 157 1 16 ho .nilIface Tryz.underlying84 (by kernel_rfl) rfl (by decide) (by decide) v n xs hs hown b c [.iface T u] hx rfl
    (fun j y hy => by cases j with
      | zero => simp at hy; subst hy; exact hu
      | succ j => simp at hy) (fun y hy => by simp at hy; subst hy; rfl) hn h

theorem ap_txt (hgd : o.guard = none) (s x : Operand) (ho : o.op = .call { callee := .builtin .append, args := #[s, x], argTypes := #[150, 150] })
    (v : Value) (n : Nat) (xs : List Value) (hs : a.eval s = v) (hown : w.ownsRow 0 131 1 v n xs)
    (b c : Nat) (u : Option Addr) (hx : a.eval x = .slice (some ⟨b, 0, none⟩) 1 c) (hu : w.cell? ⟨b, 0, none⟩ = some (.pointer u)) (hn : n ≤ 1000000)
    (h : ∀ g cap w', w'.ownsRow 0 131 1 (.slice (some ⟨g, 0, none⟩) (n + 1) cap) (n + 1) (xs ++ [.pointer u]) → w.grownBy w' v.ownBlock → (v.ownBlock = some g ∨ g = w.heap.size) → wpList Tryz.prog ops Q rest (a.put o.dst (.slice (some ⟨g, 0, none⟩) (n + 1) cap)) w') : wpList Tryz.prog ops Q (o :: rest) a w :=
  ap1 hgd s x 150 131 1 8 ho (.pointer none) Tryz.underlying150 (by kernel_rfl) rfl (by decide) (by decide) v n xs hs hown b c [.pointer u] hx rfl
    (fun j y hy => by cases j with
      | zero => simp at hy; subst hy; exact hu
      | succ j => simp at hy) (fun y hy => by simp at hy; subst hy; rfl) hn h
end
end Go.Proofs.YtmmopoofheblbaaGreatDoor

/- The stack of open blocks: addBlock, trimStack. -/
namespace Go.Proofs.YtmmopoofheblbaaGreatDoor
open Go Go.RowKit Go.Proofs

theorem ownsRow_form {w : World} {e size n : Nat} {v : Value} {xs : List Value} (h : w.ownsRow 0 e size v n xs) (hn : 0 < n) :
    ∃ g cap, v = .slice (some ⟨g, 0, none⟩) n cap ∧ (∃ cur, Blk w g cur e) ∧ (∀ i, w.frozen? ⟨g, i, none⟩ = false) ∧ (∀ (j : Nat) (u : Value), xs[j]? = some u → w.cell? ⟨g, j, none⟩ = some u) := by
  obtain ⟨h1, h2⟩ := h
  rcases h2 with ⟨_, h2⟩ | ⟨g, cap, cur, rfl, _, hg, hc, hm, hs, ht⟩
  · omega
  · refine ⟨g, cap, rfl, ⟨cur, hg⟩, fun i => Blk.fr (T := e) hg i, fun j u hj => ?_⟩
    rw [Blk.cell (T := e) hg, ← hj, ← ht]
    have hj' : j < xs.length := (List.getElem?_eq_some_iff.1 hj).1
    rw [List.getElem?_take_of_lt (by omega)]
    simp

theorem ownsRow_set {w : World} {e size n g cap : Nat} {xs : List Value} (h : w.ownsRow 0 e size (.slice (some ⟨g, 0, none⟩) n cap) n xs) (j : Nat) (u : Value) (_hj : j < n * size) :
    (w.setCell ⟨g, j, none⟩ u).ownsRow 0 e size (.slice (some ⟨g, 0, none⟩) n cap) n (xs.set j u) := by
  obtain ⟨h1, h2⟩ := h
  rcases h2 with ⟨h2, _⟩ | ⟨g', cap', cur, hv, _, hg, hc, hm, hs, ht⟩
  · cases h2
  · cases hv
    refine ⟨by simpa using h1, .inr ⟨g, cap, cur.setIfInBounds j u, rfl, Nat.zero_le _, Blk.set_same (T := e) hg j u, hc, hm, by simpa using hs, ?_⟩⟩
    rw [← ht]
    simp [List.take_set]

theorem ownsRow_keep {w w' : World} {e size n : Nat} {v : Value} {xs : List Value} {S : Nat → Prop} (h : w.ownsRow 0 e size v n xs) (hm : Mods S w w') (hS : ∀ g, v.ownBlock = some g → ¬ S g) :
    w'.ownsRow 0 e size v n xs := by
  obtain ⟨h1, h2⟩ := h
  refine ⟨h1, ?_⟩
  rcases h2 with h2 | ⟨g, cap, cur, rfl, hb, hg, rest⟩
  · exact .inl h2
  · exact .inr ⟨g, cap, cur, rfl, hb, Blk.keep (T := e) hg hm (hS g rfl), rest⟩

set_option maxHeartbeats 1000000 in
theorem trimStack_none (bp n cap : Nat) (a : Option Addr) (p : PSt) (w : World) (hp : PsAt w bp p) (hst : p.stack = .slice a n cap) (_hn : n ≤ 1000000) :
    Calls Tryz.prog 90 #[.pointer (some ⟨bp, 0, none⟩), .int .i64 n] w fun e w' => e = .returned (.tuple #[]) ∧ w = w' := by
  have k4 := hp.stack
  rw [hst] at k4
  clear hst
  go_enter Tryz.func90, Tryz.ntmps90
  go_wp2
  go_loopg [] 0 (fun g wr => w = wr)
  case atStart => rfl
  case round =>
    subst hrel
    go_wp2
    go_end0
    exact ⟨rfl, rfl⟩

theorem mods_add {S : Nat → Prop} {w w1 : World} (hk : Mods S w w1) {bp g : Nat} (j nq : Nat) (hb : S bp) (hg : g < w.heap.size → S g) (v1 v2 v3 v4 : Value) :
    Mods S w (((((w1.setCell ⟨bp, 4, none⟩ v1).drewN nq).setCell ⟨g, j, none⟩ v2).setCell ⟨g, j + 2, none⟩ v3).setCell ⟨g, j + 2 + 1, none⟩ v4) := by
  have h1 := Mods.drewN (hk.setCell (p := ⟨bp, 4, none⟩) (fun _ => hb) v1) nq
  have h2 := h1.setCell (p := ⟨g, j, none⟩) hg v2
  have h3 := h2.setCell (p := ⟨g, j + 2, none⟩) hg v3
  exact h3.setCell (p := ⟨g, j + 2 + 1, none⟩) hg v4

theorem ps_add {w1 : World} {bp g : Nat} {p : PSt} (hp1 : PsAt w1 bp p) (hne : g ≠ bp) (j nq : Nat) (v1 v2 v3 v4 : Value) :
    PsAt (((((w1.setCell ⟨bp, 4, none⟩ v1).drewN nq).setCell ⟨g, j, none⟩ v2).setCell ⟨g, j + 2, none⟩ v3).setCell ⟨g, j + 2 + 1, none⟩ v4) bp { p with stack := v1 } := by
  have h1 : PsAt ((w1.setCell ⟨bp, 4, none⟩ v1).drewN nq) bp { p with stack := v1 } := PsAt.drewN (hp1.set 4 v1 { p with stack := v1 } rfl (by decide)) nq
  have h2 := h1.set_other (a := ⟨g, j, none⟩) hne v2
  have h3 := h2.set_other (a := ⟨g, j + 2, none⟩) hne v3
  exact h3.set_other (a := ⟨g, j + 2 + 1, none⟩) hne v4

theorem row_add {w1 : World} {bp g n cap : Nat} {l : List Value} (hlen : l.length = n * 4) (hne : g ≠ bp) (nq : Nat) (v1 c x y : Value)
    (hown : w1.ownsRow 0 239 4 (.slice (some ⟨g, 0, none⟩) (n + 1) cap) (n + 1) (l ++ [.nilIface, .slice none 0 0, .int .i64 0, .int .i64 0])) :
    (((((w1.setCell ⟨bp, 4, none⟩ v1).drewN nq).setCell ⟨g, n * 4, none⟩ c).setCell ⟨g, n * 4 + 2, none⟩ x).setCell ⟨g, n * 4 + 2 + 1, none⟩ y).ownsRow 0 239 4 (.slice (some ⟨g, 0, none⟩) (n + 1) cap) (n + 1)
      (l ++ [c, .slice none 0 0, x, y]) := by
  have ho : ((w1.setCell ⟨bp, 4, none⟩ v1).drewN nq).ownsRow 0 239 4 (.slice (some ⟨g, 0, none⟩) (n + 1) cap) (n + 1) (l ++ [.nilIface, .slice none 0 0, .int .i64 0, .int .i64 0]) :=
    ownsRow_keep hown (((Mods.refl (fun k => k = bp) w1).setCell (p := ⟨bp, 4, none⟩) (fun _ => rfl) v1).drewN nq) (by intro g' hg'; cases hg'; exact hne)
  have h3 := ownsRow_set (ownsRow_set (ownsRow_set ho (n * 4) c (by omega)) (n * 4 + 2) x (by omega)) (n * 4 + 2 + 1) y (by omega)
  have e : (((l ++ [Value.nilIface, .slice none 0 0, .int .i64 0, .int .i64 0]).set (n * 4) c).set (n * 4 + 2) x).set (n * 4 + 2 + 1) y = l ++ [c, .slice none 0 0, x, y] := by
    rw [← hlen]
    simp [List.set_append]
    rw [if_neg (by omega), show l.length + 2 + 1 - l.length = 3 by omega]
    rfl
  rw [e] at h3
  exact h3

/-- What addBlock leaves. -/
structure Added (w w' : World) (bp : Nat) (p : PSt) (n : Nat) (l : List Value) (c : Value) : Prop where
  mods : Mods (fun k => k = bp ∨ p.stack.ownBlock = some k) w w'
  ex : ∃ g cap, PsAt w' bp { p with stack := .slice (some ⟨g, 0, none⟩) (n + 1) cap } ∧
    w'.ownsRow 0 239 4 (.slice (some ⟨g, 0, none⟩) (n + 1) cap) (n + 1) (l ++ [c, .slice none 0 0, .int .i64 p.lineno, .int .i64 p.lineno]) ∧ (g < w.heap.size → p.stack.ownBlock = some g)

set_option maxHeartbeats 4000000 in
theorem addBlock_any (bp n cap : Nat) (a : Option Addr) (p : PSt) (T : Nat) (c : Value) (l : List Value) (d : Int) (w : World) (hp : PsAt w bp p) (hst : p.stack = .slice a n cap) (hn : n ≤ 1000) (hd : p.depth = d) (hdn : d + 1 = n)
    (hown : w.ownsRow 0 239 4 (.slice a n cap) n l) (hne : ∀ g, (Value.slice a n cap).ownBlock = some g → g ≠ bp) (_hc : c.oneCell' = true) :
    Calls Tryz.prog 87 #[.pointer (some ⟨bp, 0, none⟩), .iface T c] w fun e w' => e = .returned (.tuple #[]) ∧ Added w w' bp p n l (.iface T c) := by
  have k5 := hp.depth
  rw [hd] at k5
  have hdl : -1 ≤ d := by omega
  have hdu : d ≤ 1000 := by omega
  go_enter Tryz.func87, Tryz.ntmps87
  go_wp2_with fail
  refine (trimStack_none bp n cap a p w hp hst (by omega)).mono ?_
  rintro e w' ⟨rfl, rfl⟩
  have k3 := hp.lineno
  have k4 := hp.stack
  rw [hst] at k4
  have f4 := hp.fr 4
  have HD := Lib.hid hd
  have HS := Lib.hid hst
  clear hd hst k5
  have hbp := hp.lt
  go_wp2_with (at_builtin; refine ap_ob rfl (.tmp 16) (.tmp 18) rfl _ n l rfl (hown.alloc _) w.heap.size 1 [.nilIface, .slice none 0 0, .int .i64 0, .int .i64 0] rfl rfl ?_ ?_ (by omega) ?_)
  · intro j u hj
    rw [(Blk.newAt (w := w) _ _ rfl).cell j]
    simpa using hj
  · intro u hu
    simp at hu
    rcases hu with rfl | rfl | rfl | rfl <;> rfl
  · intro g cap' w1 hown1 hgrow hloc
    have hlen : l.length = n * 4 := hown.1
    obtain ⟨g', cap'', he, ⟨cur, hcur⟩, hgf, hgc⟩ := ownsRow_form hown1 (by omega)
    cases he
    have hgS : g < w.heap.size → (fun k => k = bp ∨ p.stack.ownBlock = some k) g := by
      intro hlt
      rcases hloc with h | h
      · exact Or.inr (by rw [HS.out]; exact h)
      · have : (w.alloc (.cells #[.nilIface, .slice none 0 0, .int .i64 0, .int .i64 0] 239)).heap.size = w.heap.size + 1 := by simp
        omega
    have hmA := grown_mods hgrow
    have hk : Mods (fun k => k = bp ∨ p.stack.ownBlock = some k) w w1 :=
      ((Mods.refl _ w).alloc _).trans (hmA.mono (fun k _ h => Or.inr (by rw [HS.out]; exact h)))
    have hp1 : PsAt w1 bp p := (hp.alloc _).keep hmA (fun h => hne bp h rfl)
    obtain ⟨tail, htl⟩ := id hp1
    have hgbp : g ≠ bp := hcur.ne_of_type htl (by decide)
    have hbpg : bp ≠ g := Ne.symm hgbp
    have c0 : w1.cell? ⟨g, n * 4, none⟩ = some .nilIface := hgc (n * 4) _ (by simp [hlen])
    have c2 : w1.cell? ⟨g, n * 4 + 2, none⟩ = some (.int .i64 0) := hgc (n * 4 + 2) _ (by simp [hlen])
    have c3 : w1.cell? ⟨g, n * 4 + 3, none⟩ = some (.int .i64 0) := hgc (n * 4 + 3) _ (by simp [hlen])
    have g0 := hgf (n * 4)
    have g2 := hgf (n * 4 + 2)
    have g3 := hgf (n * 4 + 3)
    have hgl := hcur.lt
    clear k3 k4 f4 hbp
    have k3 := hp1.lineno
    have k4 := hp1.stack
    have f4 := hp1.fr 4
    have hbp := hp1.lt
    have HL := Lib.hid hlen
    clear hlen htl hgc hgf hgrow
    have w1' : IntKind.i64.wrap (n : Int) = n := IntWalk.i64_in _ (by omega)
    have w2 : (0 : Int) ≤ n := by omega
    have w3 : (n : Int) < (n : Int) + 1 := by omega
    go_wp2_with fail
    go_quiet (fail)
    go_wp2
    go_end0
    refine ⟨rfl, ?_, g, cap', ?_, ?_, fun hlt => (hgS hlt).elim (fun h => absurd h hgbp) (fun h => h)⟩
    · exact mods_add hk _ _ (Or.inl rfl) hgS _ _ _ _
    · exact ps_add hp1 hgbp _ _ _ _ _ _
    · exact row_add HL.out hgbp _ _ _ _ _ hown1
end Go.Proofs.YtmmopoofheblbaaGreatDoor

/- newPara where no paragraph is open: a new one, with this line. -/
namespace Go.Proofs.YtmmopoofheblbaaGreatDoor
open Go Go.RowKit Go.Proofs

abbrev zeroLV : Value := .agg #[.int .i64 0, .int .i64 0, .int .i64 0, .string ⟨#[]⟩, .int .u8 0]

/-- Option k of the parser has this value. -/
def Opt (w : World) (p : PSt) (k : Nat) (b : Bool) : Prop := ∃ cs, Blk w p.parser cs 100 ∧ cs[k]? = some (.bool b)
theorem Opt.cell {w : World} {p : PSt} {k : Nat} {b : Bool} (h : Opt w p k b) : w.cell? ⟨p.parser, k, none⟩ = some (.bool b) := by
  obtain ⟨cs, h1, h2⟩ := h
  rw [h1.cell, h2]
theorem Opt.keep {w w' : World} {p : PSt} {k : Nat} {b : Bool} {S : Nat → Prop} (h : Opt w p k b) (hm : Mods S w w') (hS : ¬ S p.parser) : Opt w' p k b := by
  obtain ⟨cs, h1, h2⟩ := h
  exact ⟨cs, h1.keep hm hS, h2⟩

structure ParaNew (w w' : World) (bp : Nat) (p : PSt) (n : Nat) (l : List Value) (s : ByteArray) : Prop where
  mods : Mods (fun k => k = bp ∨ p.stack.ownBlock = some k) w w'
  ex : ∃ g cap bb tv, PsAt w' bp { p with stack := .slice (some ⟨g, 0, none⟩) (n + 2) cap } ∧
    w'.ownsRow 0 239 4 (.slice (some ⟨g, 0, none⟩) (n + 2) cap) (n + 2) (l ++ [.iface 287 (.pointer (some ⟨bb, 0, none⟩)), .slice none 0 0, .int .i64 p.lineno, .int .i64 p.lineno]) ∧
    Blk w' bb #[tv, .pointer none] 291 ∧ w'.ownsRow 0 9 1 tv 1 [.string s] ∧ w.heap.size ≤ bb ∧ (g < w.heap.size → p.stack.ownBlock = some g) ∧ (∀ k, tv.ownBlock = some k → w.heap.size ≤ k)

set_option maxRecDepth 100000 in
set_option maxHeartbeats 4000000 in
theorem newPara_first (bp g n cap : Nat) (p : PSt) (T : Nat) (v : Value) (l : List Value) (text : ByteArray) (i : Nat) (nl : Int) (w : World) (h : NoPara w bp g n cap p T v) (hd : p.depth = n) (hn : n ≤ 100)
    (hi : i ≤ text.size) (hs : text.size ≤ 1000000) (hO : Opt w p 5 false) (hown : w.ownsRow 0 239 4 p.stack (n + 1) l) :
    Calls Tryz.prog 122 #[.pointer (some ⟨bp, 0, none⟩), LV i text nl] w fun e w' => e = .returned (.tuple #[zeroLV, .bool true]) ∧ ParaNew w w' bp p n l (trimL (text.extract i text.size)) := by
  have HD := Lib.hid hd
  clear hd
  go_enter Tryz.func122, Tryz.ntmps122
  go_wp2_with fail
  generalize hW : ((w.alloc _).alloc _ : World) = W
  have hm0 : Same w W := by subst hW; exact ((Mods.refl _ w).alloc _).alloc _
  have hb : LineAt W w.heap.size i text nl := by subst hW; exact (Blk.newAt _ _ rfl).alloc _
  have hr : LineAt W (w.heap.size + 1) 0 ⟨#[]⟩ 0 := by subst hW; exact Blk.newAt _ _ (by simp)
  clear hW
  have h1 := h.same hm0
  have hown1 := ownsRow_keep hown hm0 (fun _ _ x => x)
  have hO1 := hO.keep hm0 (fun x => x)
  refine (para_other bp g n cap p T v W h1.at_ h1.stack h1.small h1.top h1.other).mono ?_
  rintro e w1 ⟨rfl, n1, rfl⟩
  have k4 := h1.at_.stack
  rw [h1.stack] at k4
  have k5 := h1.at_.depth
  rw [HD.out] at k5
  have e1 : IntKind.i64.wrap ((n : Int) + 1 - 2) = (n : Int) - 1 := by rw [IntWalk.i64_in _ (by omega)]; omega
  have e2 : ((n : Int) == (n : Int) - 1) = false := beq_eq_false_iff_ne.2 (by omega)
  go_wp2_with fail
  go_quiet (fail)
  generalize hX : ((W.drewN n1).drewN _ : World) = W2
  have hm1 : Same W W2 := by subst hX; exact ((Mods.refl _ W).drewN _).drewN _
  clear hX k4 k5 e1 e2
  have h2 := h1.same hm1
  have hb2 := Same.blk hm1 hb
  have hr2 := Same.blk hm1 hr
  have hown2 := ownsRow_keep hown1 hm1 (fun _ _ x => x)
  have hO2 := hO1.keep hm1 (fun x => x)
  have hk := hm0.trans hm1
  clear h1 hb hr hown1 hO1 hm0 hm1
  go_wp2_with fail
  refine (trimSpaceString_any _ _ _ _ _ hs hi hb2).mono ?_
  rintro e w3 ⟨rfl, n3, rfl⟩
  have hm3 : Same W2 (W2.drewN n3) := (Mods.refl _ W2).drewN _
  generalize W2.drewN n3 = W3 at *
  have h3 := h2.same hm3
  have hr3 := Same.blk hm3 hr2
  have hown3 := ownsRow_keep hown2 hm3 (fun _ _ x => x)
  have hO3 := hO2.keep hm3 (fun x => x)
  have hk3 := hk.trans hm3
  clear h2 hb2 hr2 hown2 hO2 hk hm3
  have o5 := hO3.cell
  have k0 := h3.at_.parser
  have hpl : p.parser < W3.heap.size := World.block_lt_of_cell? _ _ o5
  have hbpl := h3.at_.lt
  go_wp2_with fail
  go_quiet (fail)
  generalize hX : (W3.drewN _ : World) = W4
  have hm4 : Same W3 W4 := by subst hX; exact (Mods.refl _ W3).drewN _
  clear hX o5 k0 hpl hbpl
  have h4 := h3.same hm4
  have hr4 := Same.blk hm4 hr3
  have hown4 := ownsRow_keep hown3 hm4 (fun _ _ x => x)
  have hk4 := hk3.trans hm4
  clear h3 hr3 hown3 hO3 hk3 hm4
  have hgl : g < W4.heap.size := World.block_lt_of_cell? _ _ h4.top
  have hbl := h4.at_.lt
  have hB0 : Blk (W4.alloc (.cells #[.slice none 0 0, .pointer none] 291)) W4.heap.size #[.slice none 0 0, .pointer none] 291 := Blk.newAt _ _ rfl
  have hmB : Same W4 (W4.alloc (.cells #[.slice none 0 0, .pointer none] 291)) := (Mods.refl _ _).alloc _
  go_wp2_with fail
  have hown4' : (W4.alloc (.cells #[.slice none 0 0, .pointer none] 291)).ownsRow 0 239 4 (.slice (some ⟨g, 0, none⟩) (n + 1) cap) (n + 1) l := by
    have := ownsRow_keep hown4 hmB (fun _ _ x => x)
    rwa [h4.stack] at this
  obtain ⟨tail, htl⟩ := id h4.at_
  obtain ⟨_, _, he, ⟨cur, hcur⟩, _, _⟩ := ownsRow_form (h4.stack ▸ hown4) (by omega)
  cases he
  have hgbp : g ≠ bp := hcur.ne_of_type htl (by decide)
  refine (addBlock_any bp (n + 1) cap (some ⟨g, 0, none⟩) p 287 (.pointer (some ⟨W4.heap.size, 0, none⟩)) l n _ (h4.at_.same hmB) h4.stack (by omega) HD.out (by omega) hown4' (by intro g' hg'; cases hg'; exact hgbp) rfl).mono ?_
  rintro e w5 ⟨rfl, hadd⟩
  obtain ⟨g5, cap5, hp5, hown5, hloc5⟩ := hadd.ex
  have HLOC5 := Lib.hid hloc5
  clear hloc5
  have hm5 := hadd.mods
  have hgl0 : g < w.heap.size := World.block_lt_of_cell? _ _ h.top
  have hbl0 := h.at_.lt
  have hB5 := hB0.keep hm5 (by rw [h4.stack]; intro h; rcases h with h | h; omega; have hh : g = W4.heap.size := Option.some.inj h; omega)
  have hr5 := Blk.keep (hr4.alloc (.cells #[.slice none 0 0, .pointer none] 291)) hm5 (by rw [h4.stack]; intro h; rcases h with h | h; omega; have hh : g = w.heap.size + 1 := Option.some.inj h; omega)
  have b0 : w5.cell? ⟨W4.heap.size, 0, none⟩ = some (.slice none 0 0) := hB5.cell 0
  have bf := hB5.fr 0
  have bl := hB5.lt
  go_wp2_with (at_builtin; refine ap_str rfl (.tmp 168) (.tmp 170) rfl _ 0 [] rfl (World.ownsRow_nil _ _ _ _) w5.heap.size 1 (trimL (text.extract i text.size)) rfl ?_ (by omega) ?_)
  · exact (Blk.newAt (w := w5) _ _ rfl).cell 0
  · intro g6 cap6 w6 hown6 hgrow hloc
    have hm6 : Same w5 w6 := ((Mods.refl _ w5).alloc _).trans ((grown_mods hgrow).mono (fun k _ h => by cases h))
    have hB6 := Same.blk hm6 hB5
    have hr6 := Same.blk hm6 hr5
    have hp6 := hp5.same hm6
    have hown5' := ownsRow_keep hown5 hm6 (fun _ _ x => x)
    have HLOC := Lib.hid hloc
    clear b0 bf bl hgrow hloc hB5 hr5 hp5 hown5
    have b0 : w6.cell? ⟨W4.heap.size, 0, none⟩ = some (.slice none 0 0) := hB6.cell 0
    have bf := hB6.fr 0
    have bl := hB6.lt
    obtain ⟨r0, r1, r2, r3, r4, rf0, rf1, rf2, rf3, rf4, rbl⟩ := LineAt.facts hr6
    have hne : W4.heap.size ≠ w.heap.size + 1 := by have := hr4.lt; omega
    go_wp2
    have hL7 : LineAt (w6.setCell ⟨W4.heap.size, 0, none⟩ (.slice (some ⟨g6, 0, none⟩) 1 cap6)) (w.heap.size + 1) 0 ⟨#[]⟩ 0 := Blk.set_other hr6 (a := ⟨W4.heap.size, 0, none⟩) hne _
    have hB7 := hB6.set_same 0 (.slice (some ⟨g6, 0, none⟩) 1 cap6)
    have hm7 : Mods (fun k => k = W4.heap.size ∨ k = w.heap.size + 1) w6 (P5 (w6.setCell ⟨W4.heap.size, 0, none⟩ (.slice (some ⟨g6, 0, none⟩) 1 cap6)) (w.heap.size + 1) 0 ⟨#[]⟩ 0) :=
      ((Mods.refl (fun k => k = W4.heap.size ∨ k = w.heap.size + 1) w6).setCell (p := ⟨W4.heap.size, 0, none⟩) (fun _ => Or.inl rfl) _).trans ((put5 hL7 0 ⟨#[]⟩ 0).1.mono (fun _ _ h => Or.inr h))
    have hsz := hk4.size
    refine bodyPost_ret (v := .tuple #[zeroLV, .bool true]) (by simp [results, Tryz.results122, go_sem, r0, r1, r2, r3, r4]) rfl ⟨rfl, ?_, g5, cap5, W4.heap.size, .slice (some ⟨g6, 0, none⟩) 1 cap6, ?_, ?_, ?_, ?_, hsz, fun hlt => HLOC5.out (by have := hmB.size; omega), ?_⟩
    · have m1 : Same w (W4.alloc (.cells #[.slice none 0 0, .pointer none] 291)) := hk4.trans hmB
      have m2 : Mods (fun k => k = bp ∨ p.stack.ownBlock = some k) w w5 := (m1.mono (fun _ _ h => absurd h (fun x => x))).then hm5 (fun _ _ h => h)
      have m3 : Mods (fun k => k = bp ∨ p.stack.ownBlock = some k) w w6 := m2.then hm6 (fun _ _ h => absurd h (fun x => x))
      exact m3.then hm7 (fun b hb h => by omega)
    · exact hp6.keep hm7 (by omega)
    · obtain ⟨_, _, he5, ⟨cur5, hcur5⟩, _, _⟩ := ownsRow_form hown5' (by omega)
      cases he5
      have n1 := hcur5.ne_of_type hB6 (by decide)
      have n2 := hcur5.ne_of_type hr6 (by decide)
      exact ownsRow_keep hown5' hm7 (by intro k hk; cases hk; intro h; rcases h with h | h; exact n1 h; exact n2 h)
    · exact hB7.keep1 (put5 hL7 0 ⟨#[]⟩ 0).1 hne
    · obtain ⟨_, _, he6, ⟨cur6, hcur6⟩, _, _⟩ := ownsRow_form hown6 (by omega)
      cases he6
      have n1 := hcur6.ne_of_type hB6 (by decide)
      have n2 := hcur6.ne_of_type hr6 (by decide)
      exact ownsRow_keep hown6 hm7 (by intro k hk; cases hk; intro h; rcases h with h | h; exact n1 h; exact n2 h)
    · intro k hk
      cases hk
      rcases HLOC.out with h | h
      · cases h
      · show w.heap.size ≤ g6
        have := hm5.size
        have := hmB.size
        omega
end Go.Proofs.YtmmopoofheblbaaGreatDoor

/- What the builders ask of the state; building a paragraph, and the document. -/
namespace Go.Proofs.YtmmopoofheblbaaGreatDoor
open Go Go.RowKit Go.Proofs

theorem row_cells {w : World} {g cap n : Nat} {l : List Value} {c i : Value} {s e : Int}
    (hown : w.ownsRow 0 239 4 (.slice (some ⟨g, 0, none⟩) (n + 1) cap) (n + 1) (l ++ [c, i, .int .i64 s, .int .i64 e])) :
    w.cell? ⟨g, n * 4, none⟩ = some c ∧ w.cell? ⟨g, n * 4 + 1, none⟩ = some i ∧ w.cell? ⟨g, n * 4 + 2, none⟩ = some (.int .i64 s) ∧ w.cell? ⟨g, n * 4 + 3, none⟩ = some (.int .i64 e) ∧
      (∀ k, w.frozen? ⟨g, k, none⟩ = false) ∧ g < w.heap.size := by
  have hlen : l.length = n * 4 := by have := hown.1; simp at this; omega
  obtain ⟨_, _, he, ⟨cur, hcur⟩, hf, hg⟩ := ownsRow_form hown (by omega)
  cases he
  exact ⟨hg _ _ (by simp [hlen]), hg _ _ (by simp [hlen]), hg _ _ (by simp [hlen]), hg _ _ (by simp [hlen]), hf, hcur.lt⟩

set_option maxHeartbeats 1000000 in
theorem pos_any (bp g n cap : Nat) (p : PSt) (l : List Value) (c i : Value) (s e : Int) (w : World) (hp : PsAt w bp p) (hst : p.stack = .slice (some ⟨g, 0, none⟩) (n + 1) cap) (hn : n ≤ 1000)
    (hown : w.ownsRow 0 239 4 (.slice (some ⟨g, 0, none⟩) (n + 1) cap) (n + 1) (l ++ [c, i, .int .i64 s, .int .i64 e])) :
    Calls Tryz.prog 428 #[.pointer (some ⟨bp, 0, none⟩)] w fun e' w' => e' = .returned (.agg #[.int .i64 s, .int .i64 e]) ∧ Same w w' := by
  obtain ⟨c0, c1, c2, c3, cf, cl⟩ := row_cells hown
  have k4 := hp.stack
  rw [hst] at k4
  clear hst
  have cf2 := cf (n * 4 + 2)
  clear cf
  have w1 : IntKind.i64.wrap (n : Int) = n := IntWalk.i64_in _ (by omega)
  have w2 : (0 : Int) ≤ n := by omega
  have w3 : (n : Int) < (n : Int) + 1 := by omega
  have hbl := hp.lt
  go_enter Tryz.func428, Tryz.ntmps428
  go_wp2_with fail
  go_quiet (fail)
  go_wp2
  exact bodyPost_ret (v := .agg #[.int .i64 s, .int .i64 e]) (by simp [results, Tryz.results428, go_sem]) rfl ⟨rfl, by
    have h1 : Same w ((w.alloc (.cells #[.int .i64 0, .int .i64 0] 106)).drewN nq) := ((Mods.refl _ w).alloc _).drewN nq
    exact (h1.setCell (p := ⟨w.heap.size, 0, none⟩) (fun h => absurd h (Nat.lt_irrefl _)) _).setCell (p := ⟨w.heap.size, 1, none⟩) (fun h => absurd h (Nat.lt_irrefl _)) _⟩

set_option maxHeartbeats 1000000 in
theorem blocks_any (bp g n cap : Nat) (p : PSt) (l : List Value) (c i : Value) (s e : Int) (w : World) (hp : PsAt w bp p) (hst : p.stack = .slice (some ⟨g, 0, none⟩) (n + 1) cap) (hn : n ≤ 1000)
    (hown : w.ownsRow 0 239 4 (.slice (some ⟨g, 0, none⟩) (n + 1) cap) (n + 1) (l ++ [c, i, .int .i64 s, .int .i64 e])) :
    Calls Tryz.prog 425 #[.pointer (some ⟨bp, 0, none⟩)] w fun e' w' => e' = .returned i ∧ ∃ k, w' = w.drewN k := by
  obtain ⟨c0, c1, c2, c3, cf, cl⟩ := row_cells hown
  have k4 := hp.stack
  rw [hst] at k4
  clear hst cf
  have w1 : IntKind.i64.wrap (n : Int) = n := IntWalk.i64_in _ (by omega)
  have w2 : (0 : Int) ≤ n := by omega
  have w3 : (n : Int) < (n : Int) + 1 := by omega
  have hbl := hp.lt
  go_enter Tryz.func425, Tryz.ntmps425
  go_wp2_with fail
  go_quiet (fail)
  go_wp2
  go_ret
  exact ⟨rfl, _, rfl⟩

set_option maxHeartbeats 1000000 in
theorem skipSpace_none (s : ByteArray) (i : Nat) (w : World) (hi : i < s.size) (_hs : s.size ≤ 1000000)
    (h1 : s[i] ≠ 32) (h2 : s[i] ≠ 9) (h3 : s[i] ≠ 10) :
    Calls Tryz.prog 153 #[.string s, .int .i64 i] w fun e w' => e = .returned (.int .i64 i) ∧ w = w' := by
  have e1 : ((s[i].toNat : Int) == 32) = false := beq_eq_false_iff_ne.2 (ne32 h1)
  have e2 : ((s[i].toNat : Int) == 9) = false := beq_eq_false_iff_ne.2 (ne9 h2)
  have e3 : ((s[i].toNat : Int) == 10) = false := beq_eq_false_iff_ne.2 (fun e => h3 (UInt8.toNat_inj.1 (by show _ = 10; omega)))
  clear h1 h2 h3
  go_enter Tryz.func153, Tryz.ntmps153
  go_wp2
  go_loopg [1] 0 (fun g j wr => w = wr ∧ j = .int .i64 i)
  case atStart => exact ⟨rfl, rfl⟩
  case round =>
    obtain ⟨rfl, rfl⟩ := hrel
    go_wp2
    go_ret
    exact ⟨rfl, rfl⟩

set_option maxHeartbeats 1000000 in
theorem parseLinkLabel_no (q : Value) (s : ByteArray) (i : Nat) (w : World) (hi : i < s.size) (_hs : s.size ≤ 1000000) (h1 : s[i] ≠ 91) :
    Calls Tryz.prog 156 #[q, .string s, .int .i64 i] w fun e w' => e = .returned (.tuple #[.string ⟨#[]⟩, .int .i64 0, .bool false]) ∧ w = w' := by
  have e1 : ((s[i].toNat : Int) != 91) = true := bne_iff_ne.2 (fun e => h1 (UInt8.toNat_inj.1 (by show _ = 91; omega)))
  go_enter Tryz.func156, Tryz.ntmps156
  go_wp2
  go_ret3
  exact ⟨rfl, rfl⟩

theorem as_ps_yes (v : Value) (w : World) : (Instr.typeAssert (.iface 160 v) 425 160 false).run Tryz.prog w = .ok v w := by kernel_rfl

set_option maxRecDepth 100000 in
set_option maxHeartbeats 1000000 in
theorem parseLinkRefDef_no (q : Value) (s : ByteArray) (w : World) (h0 : 0 < s.size) (hs : s.size ≤ 1000000) (h1 : s[0] ≠ 32) (h2 : s[0] ≠ 9) (h3 : s[0] ≠ 10) (h4 : s[0] ≠ 91) :
    Calls Tryz.prog 397 #[.iface 160 q, .string s] w fun e w' => e = .returned (.tuple #[.int .i64 0, .bool false]) ∧ w = w' := by
  have hA := as_ps_yes
  go_enter Tryz.func397, Tryz.ntmps397
  go_wp2_with fail
  refine (skipSpace_none s 0 w h0 hs h1 h2 h3).mono ?_
  rintro e w' ⟨rfl, rfl⟩
  go_wp2_with fail
  refine (parseLinkLabel_no q s 0 w h0 hs h4).mono ?_
  rintro e w' ⟨rfl, rfl⟩
  go_wp2
  go_ret2
  exact ⟨rfl, rfl⟩
end Go.Proofs.YtmmopoofheblbaaGreatDoor
