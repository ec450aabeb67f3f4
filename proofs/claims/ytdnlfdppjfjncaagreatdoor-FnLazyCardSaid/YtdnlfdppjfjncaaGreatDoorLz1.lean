/- Some texts of one proof, put into one file: Quo1, Quo2, Quo3, Close5, ParseM, Quo4, Quo5, Soft. -/
import Derived.ScopeJumps
import Derived.Deep.RegionWith
import Derived.Deep.DeepCutAuto
import Derived.Test.YtdnlfdppjfjncaaGreatDoorSt3
import Derived.Test.YtdnlfdppjfjncaaGreatDoorSt4
import Derived.Test.YtdnlfdppjfjncaaGreatDoorSt8
/- Lines behind signs >: trimQuote, newQuote, a quotation's extend. -/
namespace Go.Proofs.YtdnlfdppjfjncaaGreatDoor
open Go Go.RowKit Go.Proofs

/-- A sign > and a space stand at place i. -/
def Gt (text : ByteArray) (i : Nat) : Prop := at0 text i = 62 ∧ at0 text (i + 1) = 32
theorem Gt.lt {text : ByteArray} {i : Nat} (h : Gt text i) : i + 1 < text.size := (at0_lt h.2 (by decide)).1
theorem Gt.p3 {text : ByteArray} {i : Nat} (h : Gt text i) : p3 text i = i := by
  obtain ⟨hi, h1⟩ := at0_lt h.1 (by decide)
  unfold Go.Proofs.YtdnlfdppjfjncaaGreatDoor.p3 lead
  rw [dif_pos hi, h1]
  rfl

theorem trimSpace_01 (b : Nat) (text : ByteArray) (i : Nat) (nl : Int) (w : World) (hi : i ≤ text.size) (ht : Txt text) (h32 : at0 text i = 32) (hL : LineAt w b i text nl) :
    Calls Tryz.prog 153 #[.pointer (some ⟨b, 0, none⟩), .int .i64 0, .int .i64 1, .bool true] w
      fun e w' => e = .returned (.bool true) ∧ Mods (fun k => k = b) w w' ∧ LineAt w' b (i + 1) text nl :=
  (trimSpace_any b text i 0 1 true nl w (by omega) (by omega) hi ht hL).mono fun e w' ⟨he, hm, hl⟩ => by
    obtain ⟨h, h2⟩ := at0_lt h32 (by decide)
    have e1 : lead text i 1 = 1 := by simp [lead, h, h2]
    have : trimOk text i 0 1 true = true := by simp [trimOk]
    rw [this] at he hl
    rw [e1] at hl
    exact ⟨he, hm, hl⟩

set_option maxHeartbeats 2000000 in
theorem trimQuote_yes (text : ByteArray) (i : Nat) (nl : Int) (w : World) (hi : i ≤ text.size) (hT : Txt text) (hs : text.size ≤ 1000000) (hg : Gt text i) :
    Calls Tryz.prog 134 #[LV i text nl] w fun e w' => e = .returned (.tuple #[LV (i + 2) text nl, .bool true]) ∧ Same w w' := by
  have hp3 := hg.p3
  have hlt := hg.lt
  obtain ⟨hi0, h62⟩ := at0_lt hg.1 (by decide)
  have h32 := hg.2
  have hc : (text[i].toNat : Int) = 62 := by rw [h62]; rfl
  go_enter Tryz.func134, Tryz.ntmps134
  go_wp2_with fail
  generalize hW : (((w.alloc _).alloc _).alloc _ : World) = W
  have hm0 : Same w W := by subst hW; exact (((Mods.refl _ w).alloc _).alloc _).alloc _
  have hs0 : W.heap.size = w.heap.size + 1 + 1 + 1 := by subst hW; simp
  have hr : LineAt W (w.heap.size + 1) 0 ⟨#[]⟩ 0 := by
    subst hW; exact (Blk.newAt _ _ (by simp)).alloc _
  have ht : LineAt W (w.heap.size + 1 + 1) i text nl := by
    subst hW; exact Blk.newAt _ _ (by simp)
  clear hW
  refine (trimSpace_03 _ text i nl W hi hT ht).mono ?_
  rintro e w1 ⟨rfl, hm1, hl1⟩
  rw [hp3] at hl1
  have hr1 := Blk.keep1 hr hm1 (by omega)
  have hk : Same w w1 := hm0.then hm1 (by intro b hb; omega)
  clear ht hr hm1 hm0 hp3
  go_wp2_with fail
  refine (trim_yes _ _ _ _ _ _ hs hl1 hi0 hc).mono ?_
  rintro e w2 ⟨rfl, hm2, hl2⟩
  have hr2 := Blk.keep1 hr1 hm2 (by omega)
  have hk2 : Same w w2 := hk.then hm2 (by intro b hb; omega)
  clear hl1 hr1 hk hm2
  go_wp2_with fail
  refine (trimSpace_01 _ text (i + 1) nl w2 (by omega) hT h32 hl2).mono ?_
  rintro e w3 ⟨rfl, hm3, hl3⟩
  have hr3 := Blk.keep1 hr2 hm3 (by omega)
  have hk3 : Same w w3 := hk2.then hm3 (by intro b hb; omega)
  clear hl2 hr2 hk2 hm3 h62 h32 hc
  have HL := Lib.hid hl3
  obtain ⟨g0, g1, g2, g3, g4, gf0, gf1, gf2, gf3, gf4, gbl⟩ := LineAt.facts hl3
  obtain ⟨r0, r1, r2, r3, r4, rf0, rf1, rf2, rf3, rf4, rbl⟩ := LineAt.facts hr3
  clear hl3
  go_wp2
  exact bodyPost_ret (v := .tuple #[LV (i + 2) text nl, .bool true]) (by simp [results, Tryz.results134, go_sem, r0, r1, r2, r3, r4]; omega) rfl ⟨rfl, by
    exact hk3.then (put5 hr3 (i + 2) text nl).1 (by intro b hb; omega)⟩

set_option maxHeartbeats 2000000 in
theorem quote_extend (b p : Value) (text : ByteArray) (i i' : Nat) (ok : Bool) (nl : Int) (w : World)
    (hq : ∀ W, Calls Tryz.prog 134 #[LV i text nl] W fun e w' => e = .returned (.tuple #[LV i' text nl, .bool ok]) ∧ Same W w') :
    Calls Tryz.prog 330 #[b, p, LV i text nl] w fun e w' => e = .returned (.tuple #[LV i' text nl, .bool ok]) ∧ Same w w' := by
  go_enter Tryz.func330, Tryz.ntmps330
  go_wp2_with fail
  generalize hW : ((w.alloc _).alloc _ : World) = W
  have hm0 : Same w W := by subst hW; exact ((Mods.refl _ w).alloc _).alloc _
  have hr : LineAt W (w.heap.size + 1) 0 ⟨#[]⟩ 0 := by subst hW; exact Blk.newAt _ _ (by simp)
  clear hW
  refine (hq W).mono ?_
  rintro e w1 ⟨rfl, hm1⟩
  have hk : Same w w1 := hm0.trans hm1
  have hr1 := Same.blk hm1 hr
  obtain ⟨r0, r1, r2, r3, r4, rf0, rf1, rf2, rf3, rf4, rbl⟩ := LineAt.facts hr1
  clear hr hm1 hm0 hq
  go_wp2
  exact bodyPost_ret (v := .tuple #[LV i' text nl, .bool ok]) (by simp [results, Tryz.results330, go_sem, r0, r1, r2, r3, r4]) rfl ⟨rfl, by
    exact hk.then (put5 hr1 i' text nl).1 (by intro b hb; omega)⟩

/-- What addBlock left, seen from an earlier world, behind a store into a block of its own. -/
theorem Added.lift {w W W2 W3 : World} {bp n b i : Nat} {p : PSt} {l : List Value} {c : Value} {text : ByteArray} {nl : Int} (hA : Added W W2 bp p n l c) (h0 : Same w W) (hb : w.heap.size ≤ b) (hbp : bp < w.heap.size) (hL : LineAt W2 b i text nl) (h2 : Mods (fun k => k = b) W2 W3) : Added w W3 bp p n l c := by
  obtain ⟨g, cap, h3, h4, h5⟩ := hA.ex
  refine ⟨((h0.mono (fun _ _ x => absurd x (fun x => x))).trans hA.mods).then h2 (fun k hk x => absurd hk (by omega)), g, cap, h3.keep h2 (fun x => absurd hbp (by omega)), ownsRow_keep h4 h2 (fun k hk x => ?_), fun h => h5 (Nat.lt_of_lt_of_le h h0.size)⟩
  exact own_ne h4 hL (by decide) (by rw [← x]; exact hk)

theorem own_lt {w : World} {e size n b : Nat} {v : Value} {xs : List Value} (h : w.ownsRow 0 e size v n xs) (hb : v.ownBlock = some b) : b < w.heap.size := by
  rcases h.2 with ⟨h2, _⟩ | ⟨g', cap', cur', h2, _, hg', _⟩
  · rw [h2] at hb; cases hb
  · rw [h2] at hb
    have : g' = b := Option.some.inj hb
    subst this
    exact Blk.lt (T := e) hg'

set_option maxHeartbeats 2000000 in
theorem newQuote_yes (bp n cap : Nat) (a : Option Addr) (p : PSt) (l : List Value) (d : Int) (text : ByteArray) (i : Nat) (nl : Int) (w : World) (hp : PsAt w bp p) (hst : p.stack = .slice a n cap) (hn : n ≤ 1000) (hd : p.depth = d) (hdn : d + 1 = n)
    (hown : w.ownsRow 0 121 4 (.slice a n cap) n l) (hne : ∀ g, (Value.slice a n cap).ownBlock = some g → g ≠ bp) (hi : i ≤ text.size) (hT : Txt text) (hs : text.size ≤ 1000000) (hg : Gt text i) :
    Calls Tryz.prog 95 #[.pointer (some ⟨bp, 0, none⟩), LV i text nl] w fun e w' => e = .returned (.tuple #[LV (i + 2) text nl, .bool true]) ∧ ∃ b, Added w w' bp p n l (.iface 224 (.pointer (some ⟨b, 0, none⟩))) := by
  have hbl := hp.lt
  have HP := Lib.hid hp
  have HS := Lib.hid hst
  have HD := Lib.hid hd
  have HDN := Lib.hid hdn
  have HO := Lib.hid hown
  have HN := Lib.hid hne
  clear hp hst hd hdn hown hne
  go_enter Tryz.func95, Tryz.ntmps95
  go_wp2_with fail
  generalize hW : ((w.alloc _).alloc _ : World) = W
  have hm0 : Same w W := by subst hW; exact ((Mods.refl _ w).alloc _).alloc _
  have hb : LineAt W w.heap.size i text nl := by subst hW; exact (Blk.newAt _ _ rfl).alloc _
  have hr : LineAt W (w.heap.size + 1) 0 ⟨#[]⟩ 0 := by subst hW; exact Blk.newAt _ _ (by simp)
  clear hW
  refine (trimQuote_yes text i nl W hi hT hs hg).mono ?_
  rintro e w1 ⟨rfl, hm1⟩
  have hk : Same w w1 := hm0.trans hm1
  have hb1 := Same.blk hm1 hb
  have hr1 := Same.blk hm1 hr
  clear hb hr hm1 hm0
  go_wp2_with fail
  generalize hX : ((w1.alloc _).alloc _ : World) = X
  have hsX : Same w1 X := by subst hX; exact ((Mods.refl (fun _ => False) w1).alloc _).alloc _
  have hl : Blk X w1.heap.size #[.int .i64 0, .int .i64 ((i : Int) + 2), .int .i64 0, .string text, .int .u8 nl] 104 := by subst hX; exact (Blk.newAt _ _ rfl).alloc _
  clear hX
  have hkX := hk.trans hsX
  have hr2 : LineAt X (w.heap.size + 1) 0 ⟨#[]⟩ 0 := Same.blk hsX hr1
  have hz := hk.size
  have hgone : ∀ b, w.heap.size ≤ b → ¬ (b = bp ∨ p.stack.ownBlock = some b) := by
    rintro b hb (h | h)
    · omega
    · rw [HS.out] at h
      have := own_lt HO.out h
      omega
  have HG := Lib.hid hgone
  clear hb1 hr1 hk hsX hgone
  refine (addBlock_any bp n cap a p 224 (.pointer (some ⟨w1.heap.size + 1, 0, none⟩)) l d X (HP.out.same hkX) HS.out hn HD.out HDN.out (ownsRow_keep HO.out hkX (fun _ _ x => x)) HN.out rfl).mono ?_
  rintro e w2 ⟨rfl, hA⟩
  have hl2 := hl.keep hA.mods (HG.out _ hz)
  have hr3 := Blk.keep hr2 hA.mods (HG.out _ (by omega))
  have HA := Lib.hid hA
  have HK := Lib.hid hkX
  clear hl hr2 hA hkX
  have g0 := hl2.cell 0
  have g1 := hl2.cell 1
  have g2 := hl2.cell 2
  have g3 := hl2.cell 3
  have g4 := hl2.cell 4
  obtain ⟨r0, r1, r2, r3, r4, rf0, rf1, rf2, rf3, rf4, rbl⟩ := LineAt.facts hr3
  go_wp2
  exact bodyPost_ret (v := .tuple #[LV (i + 2) text nl, .bool true]) (by simp [results, Tryz.results95, go_sem, r0, r1, r2, r3, r4]) rfl ⟨rfl, _, HA.out.lift HK.out (by omega) hbl hr3 (put5 hr3 (i + 2) text nl).1⟩
end Go.Proofs.YtdnlfdppjfjncaaGreatDoor

/- A line behind signs >: addLine opens as many quotations, and a paragraph in them. -/
namespace Go.Proofs.YtdnlfdppjfjncaaGreatDoor
open Go Go.RowKit Go.Proofs

theorem least {p : Nat → Prop} (h : ∃ m, p m) : ∃ m, p m ∧ ∀ k, p k → m ≤ k := by
  obtain ⟨m, hm⟩ := h
  induction m using Nat.strongRecOn with
  | _ m ih =>
    by_cases h : ∃ k, k < m ∧ p k
    · obtain ⟨k, hk, hp⟩ := h
      exact ih k hk hp
    · exact ⟨m, hm, fun k hk => Nat.le_of_not_lt (fun hl => h ⟨k, hl, hk⟩)⟩

/-- A scope with one label: what holds at each jump goes down. -/
theorem wp_scope_down {P : Program} {c X : Code} {a : Act} {w : World} {Q : Exit → Act → World → Prop} (l : Nat) (J : Nat → Act → World → Prop) (hf : findLabel c l = some (Code.skip.seq X))
    (pass : ∀ m a w, J m a w → X.wp P (Exit.jump l (fun a' w' => ∃ m', m' < m ∧ J m' a' w') Q) a w)
    (first : (∀ m a w, J m a w → X.wp P (Exit.jump l (fun a' w' => ∃ m', J m' a' w') Q) a w) → c.wp P (Exit.jump l (fun a' w' => ∃ m', J m' a' w') Q) a w) : (Code.scope c).wp P Q a w := by
  classical
  refine wp_scope_jumps l (fun a w => ∃ m, J m a w) (fun a w => if h : ∃ m, J m a w then Classical.choose (least h) else 0) hf (first ?_) ?_
  · intro m a w h
    refine Code.wp_mono (fun e a' w' hq => ?_) (pass m a w h)
    cases e <;> first | exact hq | (obtain ⟨h1, m', _, h2⟩ := hq; exact ⟨h1, m', h2⟩)
  · intro a w h
    have hs := Classical.choose_spec (least h)
    refine wp_seq (wp_skip ?_)
    refine Code.wp_mono (fun e a' w' hq => ?_) (pass _ a w hs.1)
    cases e <;> first | exact hq | skip
    obtain ⟨h1, m', h2, h3⟩ := hq
    have h4 : ∃ m, J m a' w' := ⟨m', h3⟩
    refine ⟨h1, h4, ?_⟩
    show (if h : ∃ m, J m a' w' then Classical.choose (least h) else 0) < (if h : ∃ m, J m a w then Classical.choose (least h) else 0)
    rw [dif_pos h, dif_pos h4]
    exact Nat.lt_of_le_of_lt ((Classical.choose_spec (least h4)).2 m' h3) h2

theorem jump_normal {l : Nat} {J : Act → World → Prop} {Q : Exit → Act → World → Prop} {a : Act} {w : World} : Exit.jump l J Q .normal a w = Q .normal a w := rfl
theorem then_normal {K : Act → World → Prop} {Q : Exit → Act → World → Prop} {a : Act} {w : World} : Exit.then K Q .normal a w = K a w := rfl
/-- An open quotation. -/
def QOb (no : Int) (o : OB) : Prop := (∃ b, o.b = .iface 224 (.pointer (some ⟨b, 0, none⟩))) ∧ o.inner = .slice none 0 0 ∧ o.s = no ∧ o.e = no

theorem obCells_snoc (o : OB) : ∀ l : List OB, obCells (l ++ [o]) = obCells l ++ o.cells
  | [] => by simp [obCells]
  | x :: l => by
    have h := obCells_snoc o l
    simp only [List.cons_append, obCells, h, List.append_assoc]

/-- Behind k signs >: the stack holds the root and k quotations. -/
structure QS (w0 w : World) (bp : Nat) (p : PSt) (r : OB) (text : ByteArray) (nl : Int) (b3 k : Nat) : Prop where
  mods : Mods (fun b => b = bp ∨ p.stack.ownBlock = some b) w0 w
  new : w0.heap.size ≤ b3
  line : LineAt w b3 (2 * k) text nl
  ex : ∃ g cap qs, PsAt w bp { p with depth := (k : Int), stack := .slice (some ⟨g, 0, none⟩) (k + 1) cap } ∧ (g < w0.heap.size → p.stack.ownBlock = some g) ∧ qs.length = k ∧ (∀ o ∈ qs, QOb p.lineno o) ∧
    w.ownsRow 0 121 4 (.slice (some ⟨g, 0, none⟩) (k + 1) cap) (k + 1) (obCells (r :: qs))
theorem QS.same {w0 w w' : World} {bp : Nat} {p : PSt} {r : OB} {text : ByteArray} {nl : Int} {b3 k : Nat} (h : QS w0 w bp p r text nl b3 k) (hm : Same w w') : QS w0 w' bp p r text nl b3 k := by
  obtain ⟨h1, h2, h3, g, cap, qs, h4, h5, h6, h7, h8⟩ := h
  exact ⟨h1.then hm (fun _ _ x => absurd x (fun x => x)), h2, Same.blk hm h3, g, cap, qs, h4.same hm, h5, h6, h7, ownsRow_keep h8 hm (fun _ _ x => x)⟩

/-- A line of n signs > with a space each, and a paragraph's line behind them. -/
structure QLine (text : ByteArray) (n : Nat) : Prop where
  size : text.size ≤ 1000000
  txt : Txt text
  le : 2 * n ≤ text.size
  gt : ∀ k, k < n → Gt text (2 * k)
  plain : Plain text (2 * n)
  blank : ∀ k, k ≤ n → blankAt text (2 * k) = false
  c61 : ((at0 text (p3 text (2 * n))).toNat : Int) ≠ 61

/-- What such a line leaves. -/
structure QNew (w w' : World) (bp : Nat) (p : PSt) (r : OB) (n : Nat) (s : ByteArray) : Prop where
  mods : Mods (fun b => b = bp ∨ p.stack.ownBlock = some b) w w'
  ex : ∃ g cap qs bb gt ct, qs.length = n ∧ (∀ o ∈ qs, QOb p.lineno o) ∧
    ParaL w' bp g (n + 1) cap { p with depth := (n : Int), stack := .slice (some ⟨g, 0, none⟩) (n + 2) cap } (r :: qs ++ [⟨.iface 162 (.pointer (some ⟨bb, 0, none⟩)), .slice none 0 0, p.lineno, p.lineno⟩]) bb gt ct 1 [s] ∧
    w.heap.size ≤ bb ∧ w.heap.size ≤ gt ∧ (g < w.heap.size → p.stack.ownBlock = some g)

/-- At a jump. -/
def QJ (w0 : World) (bp : Nat) (p : PSt) (r : OB) (text : ByteArray) (nl : Int) (b3 n m : Nat) (a : Act) (w : World) : Prop :=
  ∃ (k : Nat) (v : Nat → Value), (m = n - k ∧ k ≤ n ∧ QS w0 w bp p r text nl b3 k) ∧
    a = ⟨#[.pointer (some ⟨bp, 0, none⟩), LV 0 text nl, v 2, .pointer (some ⟨b3, 0, none⟩), v 4, v 5, v 6, v 7, v 8, v 9, v 10, v 11, v 12, v 13, v 14, v 15, v 16, v 17, v 18, v 19, v 20, v 21, v 22, v 23, v 24, v 25, v 26, v 27, v 28, v 29, v 30, v 31, v 32, v 33, v 34, v 35, v 36, v 37, v 38, v 39, v 40, v 41, v 42, v 43, v 44, v 45, v 46, v 47, v 48, v 49, v 50, v 51, v 52, v 53, v 54, v 55, v 56, v 57, v 58, v 59, v 60, v 61, v 62, v 63, v 64, v 65, v 66, v 67, v 68, v 69, v 70, v 71, v 72, v 73, v 74, v 75, v 76, v 77, v 78, v 79, v 80, v 81, v 82, v 83, v 84, v 85, v 86, v 87, v 88, v 89, v 90, v 91, v 92, v 93, v 94, v 95, v 96, v 97, v 98, v 99, v 100, v 101, v 102, v 103, v 104, v 105, v 106, v 107, v 108, v 109, v 110, v 111, v 112], []⟩

set_option maxRecDepth 100000 in
set_option maxHeartbeats 8000000 in
theorem addLine_quotes (bp g cap n : Nat) (p : PSt) (r : OB) (T : Nat) (u : Value) (text : ByteArray) (nl : Int) (w : World) (hp : PsAt w bp p) (hst : p.stack = .slice (some ⟨g, 0, none⟩) 1 cap) (hr : r.b = .iface T u) (hT1 : T ≠ 162) (hT4 : T ≠ 242)
    (hown : w.ownsRow 0 121 4 (.slice (some ⟨g, 0, none⟩) 1 cap) 1 (obCells [r])) (hO : Opt w p 5 false) (hpb : p.parser ≠ bp) (hpg : p.parser ≠ g) (hn : n ≤ 50) (hL : QLine text n) :
    Calls Tryz.prog 64 #[.pointer (some ⟨bp, 0, none⟩), LV 0 text nl] w fun e w' => e = .returned (.tuple #[]) ∧ QNew w w' bp p r n (trimL (text.extract (2 * n) text.size)) := by
  have k5 := hp.depth
  have f5 := hp.fr 5
  have hbpl := hp.lt
  go_enter Tryz.func64, Tryz.ntmps64
  go_wp2
  refine wp_scope_down 0 (QJ w bp p r text nl w.heap.size n) (by rfl) ?_ ?_
  · rintro m a w1 ⟨k, v, ⟨rfl, hk, hS⟩, rfl⟩
    have hsz := hL.size
    have hle := hL.le
    have HS := Lib.hid hS
    clear k5 f5 hbpl hS
    by_cases hlt : k < n
    · have HGT := Lib.hid (hL.gt k hlt)
      have HBL := Lib.hid (hL.blank (k + 1) (by omega))
      go_wp2_with fail
      refine (news_any _).mono ?_
      rintro e w3 ⟨nb, rfl, hm3, hnb⟩
      have hS3 := HS.out.same hm3
      clear HS hm3
      go_wp2
      go_loopg [88] 0 (fun gg j wr => j = .int .i64 0 ∧ w3 = wr)
      case atStart => exact ⟨rfl, rfl⟩
      case round =>
        obtain ⟨rfl, rfl⟩ := hrel
        have n0 : w3.cell? ⟨nb, 0, none⟩ = some (.func (.func 95) #[] #[]) := hnb.cell 0
        obtain ⟨hmods, hnew, hline, g2, cap2, qs, hp3, hg2, hqs, hqa, hrow3⟩ := hS3
        obtain ⟨g0, g1, g2', g3, g4, gf0, gf1, gf2, gf3, gf4, gbl⟩ := LineAt.facts hline
        have HM := Lib.hid hmods
        have HR := Lib.hid hrow3
        have HQ := Lib.hid hqa
        have HG := Lib.hid hg2
        have HQS := Lib.hid hqs
        have HP := Lib.hid hp3
        have HLN := Lib.hid hline
        have hne : ∀ g9, (Value.slice (some ⟨g2, 0, none⟩) (k + 1) cap2).ownBlock = some g9 → g9 ≠ bp := fun g9 h9 e => own_ne_ps hrow3 hp3 (by decide) (by rw [← e]; exact h9)
        have HNE := Lib.hid hne
        clear hmods hrow3 hqa hg2 hqs hp3 hline hne
        go_wp2_with fail
        refine (newQuote_yes bp (k + 1) cap2 (some ⟨g2, 0, none⟩) _ (obCells (r :: qs)) (k : Int) text (2 * k) nl w3 HP.out rfl (by omega) rfl (by omega) HR.out HNE.out (by omega) hL.txt hsz HGT.out).mono ?_
        rintro e w4 ⟨rfl, b, hA⟩
        have hl4 : LineAt w4 w.heap.size (2 * k) text nl := Blk.keep HLN.out hA.mods (by
          rintro (e | e)
          · obtain ⟨tail, htl⟩ := id HP.out
            exact Blk.ne_of_type HLN.out htl (by decide) e
          · exact own_ne HR.out HLN.out (by decide) e)
        clear n0 g0 g1 g2' g3 g4 gf0 gf1 gf2 gf3 gf4 gbl
        obtain ⟨g0, g1, g2', g3, g4, gf0, gf1, gf2, gf3, gf4, gbl⟩ := LineAt.facts hl4
        have HA := Lib.hid hA
        have HL4 := Lib.hid hl4
        clear hA hl4
        go_wp2_with fail
        generalize hX : (World.alloc _ _ : World) = X
        have hmX : Mods (fun k => k = w.heap.size) w4 X := by subst hX; exact (put5 HL4.out (2 * k + 2) text nl).1.alloc _
        have hlX : LineAt X w.heap.size (2 * k + 2) text nl := by subst hX; exact Blk.alloc (put5 HL4.out (2 * k + 2) text nl).2 _
        clear hX g0 g1 g2' g3 g4 gf0 gf1 gf2 gf3 gf4 gbl
        refine (isBlank_any _ _ _ _ _ hsz (by omega) hlX).mono ?_
        rintro e w5 ⟨rfl, n5, rfl⟩
        rw [show (trimL (text.extract (2 * k + 2) text.size)).toList.isEmpty = false from HBL.out]
        obtain ⟨g5, cap5, hp5, hrow5, hg5⟩ := HA.out.ex
        have hmY := hmX.drewN n5
        have hlY : LineAt (X.drewN n5) w.heap.size (2 * k + 2) text nl := Blk.drewN hlX n5
        generalize X.drewN n5 = Y at hmY hlY ⊢
        have hpY := hp5.keep hmY (by
          intro e
          obtain ⟨tail, htl⟩ := id hp5
          exact Blk.ne_of_type HL4.out htl (by decide) e.symm)
        have hrowY := ownsRow_keep hrow5 hmY (fun b9 hb9 e => own_ne hrow5 HL4.out (by decide) (by rw [← e]; exact hb9))
        have k5 := hpY.depth
        have f5 := hpY.fr 5
        have hbpl := hpY.lt
        have w9 : IntKind.i64.wrap ((k : Int) + 1) = (k : Int) + 1 := IntWalk.i64_in _ (by omega)
        have HPY := Lib.hid hpY
        have HRY := Lib.hid hrowY
        have HLY := Lib.hid hlY
        have HMY := Lib.hid hmY
        clear hmX hlX hp5 hrow5 hmY hlY hpY hrowY
        go_wp2_with fail
        apply wp_goto
        have hm5 : Mods (fun k => k = bp) Y (Y.setCell ⟨bp, 5, none⟩ (.int .i64 ((k : Int) + 1))) := (Mods.refl (fun k => k = bp) Y).setCell (p := ⟨bp, 5, none⟩) (fun _ => rfl) _
        have hbq : bp ≠ w.heap.size := by
          intro e
          obtain ⟨tail, htl⟩ := id HPY.out
          exact Blk.ne_of_type HLY.out htl (by decide) e.symm
        refine ⟨rfl, n - (k + 1), by omega, k + 1, (fun d => cond (Nat.ble 4 d && Nat.ble d 112) (cond (Nat.ble d 51) (cond (Nat.ble d 19) (List.getD [_, _, _, _, _, _, _, _, _, _, _, _, _, _, _, _] (d - 4) undef) (cond (Nat.ble d 35) (List.getD [_, _, _, _, _, _, _, _, _, _, _, _, _, _, _, _] (d - 20) undef) (List.getD [_, _, _, _, _, _, _, _, _, _, _, _, _, _, _, _] (d - 36) undef))) (cond (Nat.ble d 83) (cond (Nat.ble d 67) (List.getD [_, _, _, _, _, _, _, _, _, _, _, _, _, _, _, _] (d - 52) undef) (List.getD [_, _, _, _, _, _, _, _, _, _, _, _, _, _, _, _] (d - 68) undef)) (cond (Nat.ble d 99) (List.getD [_, _, _, _, _, _, _, _, _, _, _, _, _, _, _, _] (d - 84) undef) (List.getD [_, _, _, _, _, _, _, _, _, _, _, _, _] (d - 100) undef)))) (v d)), ⟨rfl, by omega, ?_, Nat.le_refl _, Blk.keep1 HLY.out hm5 (Ne.symm hbq), g5, cap5, qs ++ [⟨.iface 224 (.pointer (some ⟨b, 0, none⟩)), .slice none 0 0, p.lineno, p.lineno⟩], HPY.out.set 5 _ _ rfl (by decide), ?_, by rw [List.length_append, HQS.out]; rfl, ?_, ?_⟩, rfl⟩
        · refine ((HM.out.then HA.out.mods (fun b9 h9 x => ?_)).then HMY.out (fun b9 h9 x => absurd h9 (by omega))).then hm5 (fun b9 _ x => Or.inl x)
          rcases x with x | x
          · exact Or.inl x
          · have hb9 : g2 = b9 := Option.some.inj x
            subst hb9
            exact Or.inr (HG.out h9)
        · intro h9
          have h8 := hg5 (Nat.lt_of_lt_of_le h9 HM.out.size)
          have hb9 : g2 = g5 := Option.some.inj h8
          subst hb9
          exact HG.out h9
        · intro o ho
          rcases List.mem_append.1 ho with h | h
          · exact HQ.out o h
          · rw [List.mem_singleton.1 h]
            exact ⟨⟨b, rfl⟩, rfl, rfl, rfl⟩
        · have h8 := ownsRow_keep HRY.out hm5 (fun b9 hb9 e => own_ne_ps HRY.out HPY.out (by decide) (by rw [← e]; exact hb9))
          rw [← List.cons_append, obCells_snoc]
          exact h8
    · have hkn : k = n := by omega
      subst hkn
      go_wp2_with fail
      refine (news_any _).mono ?_
      rintro e w3 ⟨nb, rfl, hm3, hnb⟩
      have hS3 := HS.out.same hm3
      clear HS hm3
      obtain ⟨hmods, hnew, hline, g2, cap2, qs, hp3, hg2, hqs, hqa, hrow3⟩ := hS3
      have hNP : ∃ T' u', T' ≠ 242 ∧ NoPara w3 bp g2 k cap2 { p with depth := (k : Int), stack := .slice (some ⟨g2, 0, none⟩) (k + 1) cap2 } T' u' := by
        obtain ⟨o, T', u', ho, hb, h1, h2⟩ : ∃ o T' u', (r :: qs)[k]? = some o ∧ o.b = .iface T' u' ∧ T' ≠ 242 ∧ T' ≠ 162 := by
          cases k with
          | zero => exact ⟨r, T, u, rfl, hr, hT4, hT1⟩
          | succ j =>
            obtain ⟨o, ho⟩ : ∃ o, qs[j]? = some o := ⟨_, List.getElem?_eq_getElem (by omega)⟩
            obtain ⟨⟨b, hb⟩, _⟩ := hqa o (List.mem_of_getElem? ho)
            exact ⟨o, _, _, by rw [List.getElem?_cons_succ]; exact ho, hb, by decide, by decide⟩
        obtain ⟨_, _, he, _, _, hc⟩ := ownsRow_form hrow3 (by omega)
        cases he
        refine ⟨T', u', h1, hp3, rfl, by omega, ?_, h2⟩
        have h3 := hc (k * 4 + 0) o.b (by rw [obCells_get _ k 0 o ho (by omega)]; rfl)
        rw [hb] at h3
        exact h3
      obtain ⟨T', u', hT', hNP⟩ := hNP
      have hTN := triesNo_first bp g2 k cap2 _ T' u' text (2 * k) nl w3 hNP rfl hT' (by omega) hL.txt hL.plain
      have hO3 : Opt w3 p 5 false := hO.keep hmods (by
        rintro (e | e)
        · exact hpb e
        · rw [hst] at e
          exact hpg (Option.some.inj e).symm)
      have HTN := Lib.hid hTN
      have HM := Lib.hid hmods
      have HR := Lib.hid hrow3
      have HQ := Lib.hid hqa
      have HG := Lib.hid hg2
      have HQS := Lib.hid hqs
      have HNP := Lib.hid hNP
      have HLN := Lib.hid hline
      have HO3 := Lib.hid hO3
      clear hmods hrow3 hqa hg2 hqs hNP hline hTN hp3 hO3
      go_wp2
      go_loopg [88] 8 (fun gg j wr => ∃ j' : Nat, gg = 8 - j' ∧ j = .int .i64 j' ∧ j' ≤ 8 ∧ Same w3 wr)
      case atStart => exact ⟨0, rfl, rfl, by omega, Mods.refl _ _⟩
      case round =>
        obtain ⟨j, hg, rfl, hk8, hr5⟩ := hrel
        have hbk5 := Same.blk hr5 HLN.out
        have hnb5 := Same.blk hr5 hnb
        obtain ⟨g0, g1, g3, g4, g5, gf0, gf1, gf2, gf3, gf4, gbl⟩ := LineAt.facts hbk5
        have hcases : j = 0 ∨ j = 1 ∨ j = 2 ∨ j = 3 ∨ j = 4 ∨ j = 5 ∨ j = 6 ∨ j = 7 ∨ j = 8 := by omega
        rcases hcases with rfl | rfl | rfl | rfl | rfl | rfl | rfl | rfl | rfl
        · have n0 : wr.cell? ⟨nb, 0, none⟩ = some (.func (.func 95) #[] #[]) := hnb5.cell 0
          go_wp2_with fail
          refine (HTN.out 95 (by simp) wr hr5).mono ?_
          rintro e w6 ⟨rfl, hm6⟩
          clear n0 g0 g1 g3 g4 g5 gf0 gf1 gf2 gf3 gf4 gbl
          go_wp2
          go_roundg 7
          case measure => omega
          case rel => exact ⟨1, rfl, rfl, by omega, (hr5.trans hm6).alloc _⟩
        · have n0 : wr.cell? ⟨nb, 1, none⟩ = some (.func (.func 96) #[] #[]) := hnb5.cell 1
          go_wp2_with fail
          refine (HTN.out 96 (by simp) wr hr5).mono ?_
          rintro e w6 ⟨rfl, hm6⟩
          clear n0 g0 g1 g3 g4 g5 gf0 gf1 gf2 gf3 gf4 gbl
          go_wp2
          go_roundg 6
          case measure => omega
          case rel => exact ⟨2, rfl, rfl, by omega, (hr5.trans hm6).alloc _⟩
        · have n0 : wr.cell? ⟨nb, 2, none⟩ = some (.func (.func 97) #[] #[]) := hnb5.cell 2
          go_wp2_with fail
          refine (HTN.out 97 (by simp) wr hr5).mono ?_
          rintro e w6 ⟨rfl, hm6⟩
          clear n0 g0 g1 g3 g4 g5 gf0 gf1 gf2 gf3 gf4 gbl
          go_wp2
          go_roundg 5
          case measure => omega
          case rel => exact ⟨3, rfl, rfl, by omega, (hr5.trans hm6).alloc _⟩
        · have n0 : wr.cell? ⟨nb, 3, none⟩ = some (.func (.func 98) #[] #[]) := hnb5.cell 3
          go_wp2_with fail
          refine (HTN.out 98 (by simp) wr hr5).mono ?_
          rintro e w6 ⟨rfl, hm6⟩
          clear n0 g0 g1 g3 g4 g5 gf0 gf1 gf2 gf3 gf4 gbl
          go_wp2
          go_roundg 4
          case measure => omega
          case rel => exact ⟨4, rfl, rfl, by omega, (hr5.trans hm6).alloc _⟩
        · have n0 : wr.cell? ⟨nb, 4, none⟩ = some (.func (.func 99) #[] #[]) := hnb5.cell 4
          go_wp2_with fail
          refine (HTN.out 99 (by simp) wr hr5).mono ?_
          rintro e w6 ⟨rfl, hm6⟩
          clear n0 g0 g1 g3 g4 g5 gf0 gf1 gf2 gf3 gf4 gbl
          go_wp2
          go_roundg 3
          case measure => omega
          case rel => exact ⟨5, rfl, rfl, by omega, (hr5.trans hm6).alloc _⟩
        · have n0 : wr.cell? ⟨nb, 5, none⟩ = some (.func (.func 100) #[] #[]) := hnb5.cell 5
          go_wp2_with fail
          refine (HTN.out 100 (by simp) wr hr5).mono ?_
          rintro e w6 ⟨rfl, hm6⟩
          clear n0 g0 g1 g3 g4 g5 gf0 gf1 gf2 gf3 gf4 gbl
          go_wp2
          go_roundg 2
          case measure => omega
          case rel => exact ⟨6, rfl, rfl, by omega, (hr5.trans hm6).alloc _⟩
        · have n0 : wr.cell? ⟨nb, 6, none⟩ = some (.func (.func 101) #[] #[]) := hnb5.cell 6
          go_wp2_with fail
          refine (HTN.out 101 (by simp) wr hr5).mono ?_
          rintro e w6 ⟨rfl, hm6⟩
          clear n0 g0 g1 g3 g4 g5 gf0 gf1 gf2 gf3 gf4 gbl
          go_wp2
          go_roundg 1
          case measure => omega
          case rel => exact ⟨7, rfl, rfl, by omega, (hr5.trans hm6).alloc _⟩
        · have n0 : wr.cell? ⟨nb, 7, none⟩ = some (.func (.func 102) #[] #[]) := hnb5.cell 7
          go_wp2_with fail
          refine (HTN.out 102 (by simp) wr hr5).mono ?_
          rintro e w6 ⟨rfl, hm6⟩
          clear n0 g0 g1 g3 g4 g5 gf0 gf1 gf2 gf3 gf4 gbl
          go_wp2
          go_roundg 0
          case measure => omega
          case rel => exact ⟨8, rfl, rfl, by omega, (hr5.trans hm6).alloc _⟩
        · have h5 := HNP.out.same hr5
          have hown5 := ownsRow_keep HR.out hr5 (fun _ _ x => x)
          have hO5 := HO3.out.keep hr5 (fun x => x)
          go_wp2_with fail
          refine (newPara_first bp g2 k cap2 _ T' u' (obCells (r :: qs)) text (2 * k) nl wr h5 rfl (by omega) (by omega) hsz hO5 hown5).mono ?_
          rintro e w6 ⟨rfl, hpn⟩
          go_wp2
          rw [jump_normal]
          go_end0
          have hM5 := (HM.out.then hr5 (fun _ _ x => absurd x (fun x => x)))
          have hz5 := hM5.size
          obtain ⟨g6, cap6, bb, tv, x1, x2, x3, x4, x5, x6, x7⟩ := hpn.ex
          obtain ⟨gt, ct, rfl, _, _, _⟩ := ownsRow_form x4 (by omega)
          refine ⟨rfl, hM5.then hpn.mods (fun b9 h9 x => ?_), g6, cap6, qs, bb, gt, ct, HQS.out, HQ.out, ⟨x1, rfl, by omega, ?_, ?_, ⟨⟨.iface 162 (.pointer (some ⟨bb, 0, none⟩)), .slice none 0 0, p.lineno, p.lineno⟩, ?_, rfl⟩, x3, x4⟩, by omega, Nat.le_trans hz5 (x7 gt rfl), fun h9 => ?_⟩
          · rcases x with x | x
            · exact Or.inl x
            · have hb9 : g2 = b9 := Option.some.inj x
              subst hb9
              exact Or.inr (HG.out h9)
          · have := HQS.out
            simp
            omega
          · rw [obCells_snoc]
            exact x2
          · have hq := HQS.out
            rw [List.getElem?_append_right (by simp; omega)]
            simp [hq]
          · have h8 := x6 (Nat.lt_of_lt_of_le h9 hz5)
            have hb9 : g2 = g6 := Option.some.inj h8
            subst hb9
            exact HG.out h9
  · intro hpass
    have HPASS := Lib.hid hpass
    clear hpass
    go_wp2
    generalize hW : (World.alloc _ _ : World) = W
    have hp0 : PsAt W bp { p with depth := 0 } := by subst hW; exact PsAt.alloc (hp.set 5 _ { p with depth := 0 } rfl (by decide)) _
    have hm0 : Mods (fun k => k = bp) w W := by subst hW; exact ((Mods.refl (fun k => k = bp) w).setCell (p := ⟨bp, 5, none⟩) (fun _ => rfl) _).alloc _
    have hbk : LineAt W w.heap.size 0 text nl := by subst hW; exact Blk.newAt _ _ (by simp)
    clear hW
    have hgbp : g ≠ bp := fun e => own_ne_ps hown hp (by decide) (by rw [← e]; rfl)
    have hQ0 : QS w W bp p r text nl w.heap.size 0 := ⟨hm0.mono (fun _ _ x => Or.inl x), Nat.le_refl _, hbk, g, cap, [], (by have h9 := hp0; rw [show ({ p with depth := 0 } : PSt) = { p with depth := ((0 : Nat) : Int), stack := .slice (some ⟨g, 0, none⟩) 1 cap } by rw [← hst]; rfl] at h9; exact h9), (fun _ => by rw [hst]; rfl), rfl, (fun _ h => by cases h), ownsRow_keep hown hm0 (fun b hb e => hgbp (by cases hb; exact e))⟩
    have hsz := hL.size
    have hle := hL.le
    have HB0 := Lib.hid (hL.blank 0 (Nat.zero_le _))
    have k4 : W.cell? ⟨bp, 4, none⟩ = some (.slice (some ⟨g, 0, none⟩) 1 cap) := by have := hp0.stack; rw [show ({ p with depth := 0 } : PSt).stack = p.stack from rfl, hst] at this; exact this
    have k5' : W.cell? ⟨bp, 5, none⟩ = some (.int .i64 0) := hp0.depth
    have HQ0 := Lib.hid hQ0
    have HBK := Lib.hid hbk
    clear k5 f5 hbpl hm0 hp0 hQ0 hbk
    go_loopg [] 0 (fun g wr => W = wr)
    case atStart => rfl
    case round =>
      subst hrel
      go_wp2_with fail
      go_quiet (fail)
      generalize hX : (W.drewN _ : World) = W1
      have hm1 : Same W W1 := by subst hX; exact (Mods.refl _ W).drewN _
      clear hX k4 k5'
      have hbk1 := Same.blk hm1 HBK.out
      go_wp2_with fail
      refine (isBlank_any _ _ _ _ _ hsz (by omega) hbk1).mono ?_
      rintro e w2 ⟨rfl, n2, rfl⟩
      rw [show (trimL (text.extract 0 text.size)).toList.isEmpty = false from HB0.out]
      have hm2 : Same W (W1.drewN n2) := hm1.drewN _
      generalize W1.drewN n2 = W2 at *
      clear hm1 hbk1
      have v : Nat → Value := fun _ => undef
      go_wp2_with fail
      go_step3
      rw [then_normal]
      rename_i hh
      refine hh _ _ ?_
      exact HPASS.out n _ _ ⟨0, (fun d => cond (Nat.ble 2 d && Nat.ble d 2) (List.getD [_] (d - 2) undef) (cond (Nat.ble 4 d && Nat.ble d 112) (cond (Nat.ble d 51) (cond (Nat.ble d 19) (List.getD [_, _, _, _, _, _, _, _, _, _, _, _, _, _, _, _] (d - 4) undef) (cond (Nat.ble d 35) (List.getD [_, _, _, _, _, _, _, _, _, _, _, _, _, _, _, _] (d - 20) undef) (List.getD [_, _, _, _, _, _, _, _, _, _, _, _, _, _, _, _] (d - 36) undef))) (cond (Nat.ble d 83) (cond (Nat.ble d 67) (List.getD [_, _, _, _, _, _, _, _, _, _, _, _, _, _, _, _] (d - 52) undef) (List.getD [_, _, _, _, _, _, _, _, _, _, _, _, _, _, _, _] (d - 68) undef)) (cond (Nat.ble d 99) (List.getD [_, _, _, _, _, _, _, _, _, _, _, _, _, _, _, _] (d - 84) undef) (List.getD [_, _, _, _, _, _, _, _, _, _, _, _, _] (d - 100) undef)))) (v d))), ⟨by omega, Nat.zero_le _, HQ0.out.same hm2⟩, rfl⟩
end Go.Proofs.YtdnlfdppjfjncaaGreatDoor

/- A line behind fewer signs > where a paragraph is open in quotations: addLine goes on with the paragraph. -/
namespace Go.Proofs.YtdnlfdppjfjncaaGreatDoor
open Go Go.RowKit Go.Proofs

theorem m_extend_quote (k : Nat) (a : Addr) (w : World) : (method (k + 1) 224 (.pointer (some a)) "pub-paratext/pub/rscmarkdown.extend").run Tryz.prog w = .ok (330, .pointer (some a)) w := by kernel_rfl

/-- The stack: the root, n quotations, a paragraph. -/
def LQ (n bb : Nat) (L : List OB) : Prop :=
  L.length = n + 2 ∧ ∀ (i : Nat) (o : OB), L[i]? = some o → o.inner = .slice none 0 0 ∧ (0 ≤ o.s ∧ o.s ≤ 1000000) ∧ ((i = 0 ∧ ∃ v, o.b = .iface 98 (.pointer v)) ∨ (1 ≤ i ∧ i ≤ n ∧ ∃ b, o.b = .iface 224 (.pointer (some ⟨b, 0, none⟩))) ∨ (i = n + 1 ∧ o.b = .iface 162 (.pointer (some ⟨bb, 0, none⟩))))
theorem LQ.upd {n bb : Nat} {L : List OB} (h : LQ n bb L) (d m : Nat) (e : Int) : LQ n bb (updE L d m e) := by
  refine ⟨by rw [updE_len]; exact h.1, fun i o ho => ?_⟩
  rw [updE_get] at ho
  obtain ⟨o', h1, h2⟩ := Option.map_eq_some_iff.1 ho
  have h3 := h.2 i o' h1
  subst h2
  split
  · exact h3
  · exact h3
theorem LQ.para {n bb : Nat} {L : List OB} (h : LQ n bb L) : ∃ o, L[n + 1]? = some o ∧ o.b = .iface 162 (.pointer (some ⟨bb, 0, none⟩)) := by
  obtain ⟨o, ho⟩ : ∃ o, L[n + 1]? = some o := ⟨_, List.getElem?_eq_getElem (by have := h.1; omega)⟩
  rcases (h.2 _ o ho).2.2 with ⟨h1, _⟩ | ⟨_, h1, _⟩ | ⟨_, hb⟩
  · omega
  · omega
  · exact ⟨o, ho, hb⟩
theorem LQ.quote {n bb : Nat} {L : List OB} (h : LQ n bb L) (j : Nat) (hj : j < n) : ∃ o b, L[j + 1]? = some o ∧ o.b = .iface 224 (.pointer (some ⟨b, 0, none⟩)) := by
  obtain ⟨o, ho⟩ : ∃ o, L[j + 1]? = some o := ⟨_, List.getElem?_eq_getElem (by have := h.1; omega)⟩
  rcases (h.2 _ o ho).2.2 with ⟨h1, _⟩ | ⟨_, _, b, hb⟩ | ⟨h1, _⟩
  · omega
  · exact ⟨o, b, ho, hb⟩
  · omega
theorem f_extend_quote (args : Array Value) (w : World) : (callFunc 330 args).run Tryz.prog w = .ok (.enter 330 args) w := by kernel_rfl
theorem f_extend_para (args : Array Value) (w : World) : (callFunc 289 args).run Tryz.prog w = .ok (.enter 289 args) w := by kernel_rfl

theorem ParaL.depthS {w : World} {bp g n cap : Nat} {p : PSt} {L : List OB} {bb gt ct m : Nat} {xs : List ByteArray} (h : ParaL w bp g n cap p L bb gt ct m xs) (d : Int) :
    ParaL (w.setCell ⟨bp, 5, none⟩ (.int .i64 d)) bp g n cap { p with depth := d } L bb gt ct m xs ∧ Mods (fun k => k = bp) w (w.setCell ⟨bp, 5, none⟩ (.int .i64 d)) := by
  have hm : Mods (fun k => k = bp) w (w.setCell ⟨bp, 5, none⟩ (.int .i64 d)) := (Mods.refl (fun k => k = bp) w).setCell (p := ⟨bp, 5, none⟩) (fun _ => rfl) _
  obtain ⟨tail, htl⟩ := id h.at_
  exact ⟨⟨h.at_.set 5 _ { p with depth := d } rfl (by decide), h.stack, h.small, h.len, ownsRow_keep h.row hm (fun b hb x => by cases hb; exact htl.own_ne h.row (by decide) x.symm), h.top,
    h.blk.keep1 hm (h.blk.ne_of_type htl (by decide)), ownsRow_keep h.txt hm (fun b hb x => by cases hb; exact htl.own_ne h.txt (by decide) x.symm)⟩, hm⟩

/-- What the block at place j + 1 of the stack says to a line of k signs >. -/
theorem lazy_round {n bb k : Nat} {L : List OB} {text : ByteArray} (nl : Int) (h : LQ n bb L) (hkn : k ≤ n) (hL : QLine text k) (bp j i2 : Nat) (hjk : j ≤ k) (hi : i2 = 2 * j) :
    ∃ Tb qb fe i' ok ob, L[j + 1]? = some ob ∧ ob.b = .iface Tb (.pointer (some ⟨qb, 0, none⟩)) ∧ (∀ k w, (method (k + 1) Tb (.pointer (some ⟨qb, 0, none⟩)) "pub-paratext/pub/rscmarkdown.extend").run Tryz.prog w = .ok (fe, .pointer (some ⟨qb, 0, none⟩)) w) ∧
      (∀ args w, (callFunc fe args).run Tryz.prog w = .ok (.enter fe args) w) ∧
      (∀ V, Calls Tryz.prog fe #[.pointer (some ⟨qb, 0, none⟩), .pointer (some ⟨bp, 0, none⟩), LV i2 text nl] V fun e V' => e = .returned (.tuple #[LV i' text nl, .bool ok]) ∧ Same V V') ∧
      ((j < k ∧ ok = true ∧ i' = i2 + 2) ∨ (j = k ∧ ok = false ∧ i' = i2)) := by
  subst hi
  have hle := hL.le
  by_cases hlt : j < k
  · obtain ⟨o, b, ho, hb⟩ := h.quote j (by omega)
    exact ⟨_, b, _, 2 * j + 2, true, o, ho, hb, fun k w => m_extend_quote k _ w, f_extend_quote, fun V => quote_extend _ _ text (2 * j) (2 * j + 2) true nl V (fun W2 => trimQuote_yes text (2 * j) nl W2 (by omega) hL.txt hL.size (hL.gt j hlt)), Or.inl ⟨hlt, rfl, rfl⟩⟩
  · have hjk2 : j = k := by omega
    subst hjk2
    by_cases hn : j < n
    · obtain ⟨o, b, ho, hb⟩ := h.quote j hn
      exact ⟨_, b, _, 2 * j, false, o, ho, hb, fun k w => m_extend_quote k _ w, f_extend_quote, fun V => quote_extend _ _ text (2 * j) (2 * j) false nl V (fun W2 => trimQuote_no text (2 * j) nl W2 (by omega) hL.txt hL.plain.c62), Or.inr ⟨rfl, rfl, rfl⟩⟩
    · obtain ⟨o, ho, hb⟩ := h.para
      have hjn : j = n := by omega
      subst hjn
      exact ⟨_, bb, _, 2 * j, false, o, ho, hb, fun k w => m_extend_para k _ w, f_extend_para, fun V => para_extend _ _ (2 * j) text nl V, Or.inr ⟨rfl, rfl, rfl⟩⟩

theorem eql_quote_para (u v : Value) (w : World) : (binOp .eql 118 (.iface 224 u) (.iface 162 v)).run Tryz.prog w = .ok (.bool false) w := by kernel_rfl

set_option maxHeartbeats 1000000 in
theorem newSetext_quote (bp g n cap : Nat) (p : PSt) (bb qb : Nat) (text : ByteArray) (i : Nat) (nl : Int) (w : World) (h : InPara w bp g n cap p bb) (d : Nat) (hd : p.depth = d) (hdn : d + 1 < n)
    (hq : w.cell? ⟨g, (d + 1) * 4, none⟩ = some (.iface 224 (.pointer (some ⟨qb, 0, none⟩)))) :
    Calls Tryz.prog 97 #[.pointer (some ⟨bp, 0, none⟩), LV i text nl] w fun e w' => e = .returned (.tuple #[LV i text nl, .bool false]) ∧ Same w w' := by
  have hsm := h.small
  have hqp := eql_quote_para
  go_enter Tryz.func97, Tryz.ntmps97
  go_wp2_with fail
  generalize hW : ((((w.alloc _).alloc _).alloc _).alloc _ : World) = W
  have hm0 : Same w W := by subst hW; exact ((((Mods.refl _ w).alloc _).alloc _).alloc _).alloc _
  have hb : LineAt W w.heap.size i text nl := by subst hW; exact (((Blk.newAt _ _ rfl).alloc _).alloc _).alloc _
  have hr : LineAt W (w.heap.size + 1) 0 ⟨#[]⟩ 0 := by subst hW; exact ((Blk.newAt _ _ (by simp)).alloc _).alloc _
  clear hW
  have h1 := h.same hm0
  have hq1 : W.cell? ⟨g, (d + 1) * 4, none⟩ = some (.iface 224 (.pointer (some ⟨qb, 0, none⟩))) := (World.cell?_of_block (hm0.block g (World.block_lt_of_cell? _ _ hq) (fun x => x))).trans hq
  refine (nextB_some bp g _ _ p W h1.at_ h1.stack d hd (by omega) (by omega) _ hq1).mono ?_
  rintro e w1 ⟨rfl, n1, rfl⟩
  clear hq hq1
  go_wp2_with fail
  refine (para_yes bp g n cap p _ _ (h1.at_.drewN n1) h1.stack (by omega) h1.top).mono ?_
  rintro e w2 ⟨rfl, n2, rfl⟩
  have hm2 : Same w ((W.drewN n1).drewN n2) := (hm0.drewN n1).drewN n2
  have hb2 : LineAt ((W.drewN n1).drewN n2) w.heap.size i text nl := hb
  have hr2 : LineAt ((W.drewN n1).drewN n2) (w.heap.size + 1) 0 ⟨#[]⟩ 0 := hr
  generalize (W.drewN n1).drewN n2 = W2 at *
  clear hb hr h1 h hd hm0
  obtain ⟨g0, g1, g2, g3, g4, gf0, gf1, gf2, gf3, gf4, gbl⟩ := LineAt.facts hb2
  obtain ⟨r0, r1, r2, r3, r4, rf0, rf1, rf2, rf3, rf4, rbl⟩ := LineAt.facts hr2
  clear hb2
  go_wp2
  exact bodyPost_ret (v := .tuple #[LV i text nl, .bool false]) (by simp [results, Tryz.results97, go_sem, r0, r1, r2, r3, r4]) rfl ⟨rfl, by
    exact hm2.then ((put5 hr2 i text nl).1) (by intro b hb; omega)⟩

theorem triesNo_lazy (bp g cap n k : Nat) (p : PSt) (L : List OB) (bb gt ct m : Nat) (xs : List ByteArray) (text : ByteArray) (nl : Int) (w : World) (h : ParaL w bp g (n + 1) cap p L bb gt ct m xs) (hLQ : LQ n bb L) (hn : n ≤ 50) (hkn : k ≤ n) (hd : p.depth = k) (hL : QLine text k) : TriesNo w bp (2 * k) text nl := by
  intro f hf W hW
  have h1 := h.same hW
  have hP := hL.plain
  have hi := hL.le
  have hT := hL.txt
  simp only [List.mem_cons, List.not_mem_nil, or_false] at hf
  rcases hf with rfl | rfl | rfl | rfl | rfl | rfl | rfl | rfl
  · exact newQuote_no _ text _ nl W hi hT hP.c62
  · exact newATX_no _ text _ nl W hi hT hP.c35
  · by_cases hkn2 : k < n
    · obtain ⟨o, b, ho, hb⟩ := hLQ.quote k hkn2
      have h2 := h1.cell (k + 1) 0 o ho (by omega) o.b rfl
      rw [hb] at h2
      exact newSetext_quote bp g (n + 1) cap p bb b text _ nl W h1.inPara k hd (by omega) h2
    · exact newSetext_cont bp g (n + 1) cap p bb text _ nl W h1.inPara k hd (by omega) hi hT hP.c45 hL.c61
  · exact newHR_no _ text _ nl W hi hT hP.c45 hP.c95 hP.c42
  · obtain ⟨o, T, v, ho, hb, hT4⟩ : ∃ o T v, L[k]? = some o ∧ o.b = .iface T v ∧ T ≠ 242 := by
      obtain ⟨o, ho⟩ : ∃ o, L[k]? = some o := ⟨_, List.getElem?_eq_getElem (by have := hLQ.1; omega)⟩
      rcases (hLQ.2 _ o ho).2.2 with ⟨_, v, hb⟩ | ⟨_, _, b, hb⟩ | ⟨_, hb⟩
      · exact ⟨o, _, _, ho, hb, by decide⟩
      · exact ⟨o, _, _, ho, hb, by decide⟩
      · exact ⟨o, _, _, ho, hb, by decide⟩
    have h2 := h1.cell k 0 o ho (by omega) o.b rfl
    rw [hb] at h2
    exact newListItem_no bp g (n + 1 + 1) cap none p T k v text _ nl W h1.at_ h1.stack hd (by omega) (by omega) h2 hT4 hi hT hP.item
  · exact newHTML_no _ text _ nl W hi hT hP.c60
  · exact newFence_no _ text _ nl W hi hT hP.c96 hP.c126
  · exact newPre_cont bp g (n + 1) cap p bb text _ nl W h1.inPara

set_option maxRecDepth 100000 in
set_option maxHeartbeats 8000000 in
theorem addLine_lazy (bp g cap n k : Nat) (p : PSt) (L : List OB) (bb gt ct m : Nat) (xs : List ByteArray) (text : ByteArray) (nl : Int) (w : World) (h : ParaL w bp g (n + 1) cap p L bb gt ct m xs) (hLQ : LQ n bb L) (hn : n ≤ 50) (hkn : k ≤ n)
    (hO : Opt w p 5 false) (hpb : p.parser ≠ bp) (hpg : p.parser ≠ g) (hm0 : 0 < m) (hm6 : m ≤ 100000) (hL : QLine text k) :
    Calls Tryz.prog 64 #[.pointer (some ⟨bp, 0, none⟩), LV 0 text nl] w fun e w' => e = .returned (.tuple #[]) ∧
      Mods (fun b => b = bp ∨ b = g ∨ b = bb ∨ b = gt) w w' ∧ ∃ L' gt' ct', LQ n bb L' ∧ ParaL w' bp g (n + 1) cap { p with depth := (k : Int) } L' bb gt' ct' (m + 1) (xs ++ [trimL (text.extract (2 * k) text.size)]) ∧ (gt' = gt ∨ w.heap.size ≤ gt') := by
  have k5 := h.at_.depth
  have f5 := h.at_.fr 5
  have hbpl := h.at_.lt
  have hsz := hL.size
  have hle := hL.le
  go_enter Tryz.func64, Tryz.ntmps64
  go_wp2
  go_step3
  go_wp2
  generalize hW : (World.alloc _ _ : World) = W
  have hd0 := h.depth0
  have hmW : Mods (fun k => k = bp) w W := by subst hW; exact hd0.2.alloc _
  have h0 : ParaL W bp g (n + 1) cap { p with depth := 0 } L bb gt ct m xs := by subst hW; exact hd0.1.same ((Mods.refl _ _).alloc _)
  have hbk : LineAt W w.heap.size 0 text nl := by subst hW; exact Blk.newAt _ _ (by simp)
  clear hW hd0
  have HMW := Lib.hid hmW
  have HO0 := Lib.hid hO
  have HLTS := Lib.hid (h.lts hm0)
  have HLQ := Lib.hid hLQ
  have hzW := hmW.size
  have hbW := hbk.lt
  have hR0 : ParaL W bp g (n + 1) cap { p with depth := ((0 : Nat) : Int) } (updE L 1 1 p.lineno) bb gt ct m xs := by rw [updE_zero]; exact h0
  have HR0 := Lib.hid hR0
  have HBK := Lib.hid hbk
  clear k5 f5 hbpl h0 hR0 hbk hmW hLQ h hO
  go_loopg [4, 5] (k + 1) (fun mm v4 v5 wr => ∃ j : Nat, mm = k + 1 - j ∧ j ≤ k ∧ ParaL wr bp g (n + 1) cap { p with depth := (j : Int) } (updE L 1 (j + 1) p.lineno) bb gt ct m xs ∧ LineAt wr w.heap.size (2 * j) text nl ∧ Mods (fun b => b = bp ∨ b = g ∨ b = w.heap.size) W wr)
  case atStart => exact ⟨0, rfl, Nat.zero_le _, HR0.out, HBK.out, Mods.refl _ _⟩
  case round =>
    obtain ⟨j, rfl, hjk, hP, hbk, hM⟩ := hrel
    have k4 := hP.at_.stack
    rw [hP.stack] at k4
    have k5 : wr.cell? ⟨bp, 5, none⟩ = some (.int .i64 (j : Nat)) := hP.at_.depth
    have k3 : wr.cell? ⟨bp, 3, none⟩ = some (.int .i64 p.lineno) := hP.at_.lineno
    have w1 : IntKind.i64.wrap ((j : Int) + 1) = (j : Int) + 1 := IntWalk.i64_in _ (by omega)
    have w2 : (0 : Int) ≤ (j : Int) + 1 := by omega
    have w3 : ((j : Int) + 1).toNat = j + 1 := by omega
    have w4 : (j : Int) + 1 < ((n + 1 + 1 : Nat) : Int) := by omega
    have w5 : (j : Int) + 1 < (n : Int) + 1 + 1 := by omega
    have HP := Lib.hid hP
    have HM := Lib.hid hM
    have HB := Lib.hid hbk
    clear hP hM hbk
    obtain ⟨i2, hi2⟩ : ∃ i2, i2 = 2 * j := ⟨_, rfl⟩
    rw [← hi2] at HB
    have hi3 : i2 ≤ 2 * j := by omega
    obtain ⟨Tb, qb, fe, i', ok, ob, hob, hqb, hx, hcf, hE, hcase⟩ := lazy_round nl (HLQ.out.upd 1 (j + 1) p.lineno) hkn hL bp j i2 hjk hi2
    have hBL := hL.blank j hjk
    rw [← hi2] at hBL
    have hi4 : i' ≤ text.size := by rcases hcase with ⟨h1, _, h2⟩ | ⟨h1, _, h2⟩ <;> omega
    have HBL := Lib.hid hBL
    have HI := Lib.hid hi2
    have HOB := Lib.hid hob
    have HQB := Lib.hid hqb
    have HC := Lib.hid hcase
    have HE0 := Lib.hid hE
    have kt0 := HP.out.cell (j + 1) 0 ob hob (by omega) ob.b rfl
    rw [hqb] at kt0
    have kt : wr.cell? ⟨g, (j + 1) * 4, none⟩ = some (.iface Tb (.pointer (some ⟨qb, 0, none⟩))) := kt0
    have hgl : g < wr.heap.size := World.block_lt_of_cell? _ _ kt
    clear hi2 hBL hob hqb hcase hE kt0
    go_wp2_with fail
    go_quiet (fail)
    generalize hX : (World.drewN _ _ : World) = X0
    have hm1 : Same wr X0 := by subst hX; exact (Mods.refl _ wr).drewN _
    clear hX k4 k5 k3 kt hgl
    obtain ⟨g0, g1, g2, g3, g4, gf0, gf1, gf2, gf3, gf4, gbl⟩ := LineAt.facts (Same.blk hm1 HB.out)
    go_wp2_with fail
    clear g0 g1 g2 g3 g4 gf0 gf1 gf2 gf3 gf4 gbl
    generalize hX : (X0.alloc _ : World) = X
    have hm2 : Same X0 X := by subst hX; exact (Mods.refl _ X0).alloc _
    have hold : LineAt X X0.heap.size i2 text nl := by subst hX; exact Blk.newAt _ _ rfl
    clear hX
    have hm3 := hm1.trans hm2
    have hP2 := HP.out.same hm3
    have hB2 := Same.blk hm3 HB.out
    have hz1 := hm1.size
    have hz0 := HM.out.size
    have k4 := hP2.at_.stack
    rw [hP2.stack] at k4
    have k5 : X.cell? ⟨bp, 5, none⟩ = some (.int .i64 (j : Nat)) := hP2.at_.depth
    have kt9 := hP2.cell (j + 1) 0 ob HOB.out (by omega) ob.b rfl
    rw [HQB.out] at kt9
    have kt : X.cell? ⟨g, (j + 1) * 4, none⟩ = some (.iface Tb (.pointer (some ⟨qb, 0, none⟩))) := kt9
    have hgl : g < X.heap.size := World.block_lt_of_cell? _ _ kt
    have hbpl := hP2.at_.lt
    have HE : ∀ V, Same X V → Calls Tryz.prog fe #[.pointer (some ⟨qb, 0, none⟩), .pointer (some ⟨bp, 0, none⟩), LV i2 text nl] V fun e V' => e = .returned (.tuple #[LV i' text nl, .bool ok]) ∧ Same X V' ∧
        (V'.cell? ⟨w.heap.size, 0, none⟩ = some (.int .i64 0) ∧ V'.cell? ⟨w.heap.size, 1, none⟩ = some (.int .i64 (i2 : Int)) ∧ V'.cell? ⟨w.heap.size, 2, none⟩ = some (.int .i64 0) ∧ V'.cell? ⟨w.heap.size, 3, none⟩ = some (.string text) ∧ V'.cell? ⟨w.heap.size, 4, none⟩ = some (.int .u8 nl) ∧
          V'.frozen? ⟨w.heap.size, 0, none⟩ = false ∧ V'.frozen? ⟨w.heap.size, 1, none⟩ = false ∧ V'.frozen? ⟨w.heap.size, 2, none⟩ = false ∧ V'.frozen? ⟨w.heap.size, 3, none⟩ = false ∧ V'.frozen? ⟨w.heap.size, 4, none⟩ = false ∧ w.heap.size < V'.heap.size) := fun V hV =>
      (HE0.out V).mono fun e V' ⟨x1, x2⟩ => ⟨x1, hV.trans x2, LineAt.facts (Same.blk (hV.trans x2) hB2)⟩
    obtain ⟨g0, g1, g2, g3, g4, gf0, gf1, gf2, gf3, gf4, gbl⟩ := LineAt.facts hB2
    have hS0 : Same X X := Mods.refl _ _
    have HP2 := Lib.hid hP2
    have HB2 := Lib.hid hB2
    have HOLD := Lib.hid hold
    have HM3 := Lib.hid hm3
    have hzn : X0.heap.size ≠ w.heap.size := by omega
    clear hP2 hB2 hold hm1 hm2 hm3 HP HB kt9
    go_upto_region 6 with (fail)
    go_cut [5] (fun s5 wx => s5 = .bool ok ∧ Mods (fun k => k = w.heap.size) X wx ∧ LineAt wx w.heap.size i' text nl ∧ LineAt wx X0.heap.size i2 text nl)
    case first =>
      go_region_with ((refine (HE _ (by repeat (first | assumption | apply Mods.drew))).mono ?_; rintro e' wC ⟨rfl, hmC, c0, c1, c2, c3, c4, cf0, cf1, cf2, cf3, cf4, cbl⟩))
      all_goals
        have hbC := Same.blk hmC HB2.out
        have hoC := Same.blk hmC HOLD.out
        have hP := put5 hbC i' text nl
        clear g0 g1 g2 g3 g4 gf0 gf1 gf2 gf3 gf4 gbl c0 c1 c2 c3 c4 cf0 cf1 cf2 cf3 cf4 cbl k4 k5 kt hx HE hcf
        go_wp2_with fail
        go_meet
        case rel => exact ⟨rfl, (hmC.mono (fun _ _ h => absurd h (fun x => x))).trans hP.1, hP.2, hoC.keep1 hP.1 hzn⟩
    case rest =>
      obtain ⟨rfl, hmx, hbx, hox⟩ := hcut
      have hlts := HLTS.out
      have hP3 := HP2.out.keep hmx (by omega) (by omega) (by omega) (by omega)
      have hgbp : bp ≠ g := fun e => own_ne_ps hP3.row hP3.at_ (by decide) (by rw [e]; rfl)
      clear k4 k5 kt hgl hbpl HE g0 g1 g2 g3 g4 gf0 gf1 gf2 gf3 gf4 gbl hS0 hx hcf
      rcases HC.out with ⟨hlt, rfl, rfl⟩ | ⟨hjk2, rfl, rfl⟩
      · go_wp2_with fail
        refine (isBlank_any _ _ _ _ _ hsz (by omega) hox).mono ?_
        rintro e w2 ⟨rfl, n2, rfl⟩
        rw [show (trimL (text.extract i2 text.size)).toList.isEmpty = false from HBL.out]
        have hmB : Same wc (wc.drewN n2) := (Mods.refl _ _).drewN _
        generalize wc.drewN n2 = wB at hmB ⊢
        have hP4 := hP3.same hmB
        have hB4 := Same.blk hmB hbx
        obtain ⟨hset, hmset, hfz, hgl⟩ := hP4.setE (j + 1) ob p.lineno HOB.out
        rw [updE_step L 1 (j + 1) p.lineno ob (by omega) HOB.out] at hset
        have hc3 : wB.cell? ⟨g, (j + 1) * 4 + 2 + 1, none⟩ = some (.int .i64 ob.e) := hP4.cell (j + 1) 3 ob HOB.out (by omega) _ rfl
        have hfz3 : wB.frozen? ⟨g, (j + 1) * 4 + 2 + 1, none⟩ = false := hfz
        have hset3 : ParaL (wB.setCell ⟨g, (j + 1) * 4 + 2 + 1, none⟩ (.int .i64 p.lineno)) bp g (n + 1) cap { p with depth := (j : Int) } (updE L 1 (j + 1 + 1) p.lineno) bb gt ct m xs := hset
        have hmset3 : Mods (fun b => b = g) wB (wB.setCell ⟨g, (j + 1) * 4 + 2 + 1, none⟩ (.int .i64 p.lineno)) := hmset
        have hB5 := Blk.keep1 hB4 hmset3 (by omega)
        have k4 := hP4.at_.stack
        rw [hP4.stack] at k4
        have k5 : wB.cell? ⟨bp, 5, none⟩ = some (.int .i64 (j : Nat)) := hP4.at_.depth
        have k3 : wB.cell? ⟨bp, 3, none⟩ = some (.int .i64 p.lineno) := hP4.at_.lineno
        have hbpl := hP4.at_.lt
        have HSET := Lib.hid hset3
        have HMS := Lib.hid hmset3
        have HMB := Lib.hid hmB
        have HB5 := Lib.hid hB5
        have HMX := Lib.hid hmx
        clear hset hmset hfz hset3 hmset3 hB4 hB5 hP4 hP3 hmB hbx hox hmx
        go_wp2_with fail
        go_region
        all_goals
          go_upto_region 3 with (fail)
          have hP9 := HSET.out
          have hM9 := HMS.out
          have hB9 := HB5.out
          generalize (World.setCell wB _ _ : World) = wD at hP9 hM9 hB9 ⊢
          have hSd : Same wD wD.drew := (Mods.refl (fun _ => False) wD).drew
          generalize (World.drew wD : World) = wE at hSd ⊢
          have hP5 := hP9.same hSd
          have hB6 := Same.blk hSd hB9
          obtain ⟨hd1, hd2⟩ := hP5.depthS (((j + 1 : Nat)) : Int)
          have hB7 := Blk.keep1 hB6 hd2 (by omega)
          have k5 : wE.cell? ⟨bp, 5, none⟩ = some (.int .i64 (j : Nat)) := hP5.at_.depth
          have f5 := hP5.at_.fr 5
          have hbpl := hP5.at_.lt
          have HD1 := Lib.hid hd1
          have HB7 := Lib.hid hB7
          have HMM := Lib.hid (((((HM.out.then HM3.out (fun _ _ x => absurd x (fun x => x))).then HMX.out (fun _ _ x => Or.inr (Or.inr x))).then HMB.out (fun _ _ x => absurd x (fun x => x))).then hM9 (fun _ _ x => Or.inr (Or.inl x))).then hSd (fun _ _ x => absurd x (fun x => x)) |>.then hd2 (fun _ _ x => Or.inl x))
          clear hP9 hM9 hB9 hSd hP5 hB6 hd1 hd2 hB7
          go_wp2_with fail
          go_roundg (k + 1 - (j + 1))
          case measure => omega
          case rel => exact ⟨j + 1, rfl, by omega, HD1.out, by rw [show 2 * (j + 1) = i2 + 2 by have := HI.out; omega]; exact HB7.out, HMM.out⟩
      · subst hjk2
        have hM0 : Mods (fun b => b = bp ∨ b = g ∨ b = w.heap.size) w wc := (((HMW.out.mono (fun _ _ x => Or.inl x)).trans HM.out).then HM3.out (fun _ _ x => absurd x (fun x => x))).then hmx (fun _ _ x => Or.inr (Or.inr x))
        have hMw : Mods (fun b => b = bp ∨ b = g) w wc := hM0.mono (fun b hb x => by rcases x with x | x | x; exact Or.inl x; exact Or.inr x; omega)
        have hO1 : Opt wc p 5 false := HO0.out.keep hMw (by rintro (e | e); exact hpb e; exact hpg e)
        have hLQ3 := HLQ.out.upd 1 (j + 1) p.lineno
        have hTN := triesNo_lazy bp g cap n j _ _ bb gt ct m xs text nl wc hP3 hLQ3 hn hkn rfl hL
        have hi2 := HI.out
        subst hi2
        have HTN := Lib.hid hTN
        have HLQ3 := Lib.hid hLQ3
        have HO1 := Lib.hid hO1
        have HMw := Lib.hid hMw
        have HP3 := Lib.hid hP3
        have hz3 := hMw.size
        clear hTN hLQ3 hO1 hMw hM0 hP3 HB2 HOLD HM3 HM HMW HP2 HOB HQB HE0 HC HI HO0 HR0 HBK
        have hq := line_neq_same
        go_wp2_with fail
        refine (isBlank_any _ _ _ _ _ hsz (by omega) hox).mono ?_
        rintro e w2 ⟨rfl, n2, rfl⟩
        rw [show (trimL (text.extract (2 * j) text.size)).toList.isEmpty = false from HBL.out]
        have hbx2 : LineAt (wc.drewN n2) w.heap.size (2 * j) text nl := hbx
        have hox2 : LineAt (wc.drewN n2) X0.heap.size (2 * j) text nl := hox
        have hm2 : Same wc (wc.drewN n2) := (Mods.refl _ _).drewN _
        generalize wc.drewN n2 = wB at hbx2 hox2 hm2 ⊢
        obtain ⟨g0, g1, g2, g3, g4, gf0, gf1, gf2, gf3, gf4, gbl⟩ := LineAt.facts hbx2
        obtain ⟨o0, o1, o2, o3, o4, of0, of1, of2, of3, of4, obl⟩ := LineAt.facts hox2
        clear hbx hox hmx
        go_wp2_with fail
        clear o0 o1 o2 o3 o4 of0 of1 of2 of3 of4 obl g0 g1 g2 g3 g4 gf0 gf1 gf2 gf3 gf4 gbl hox2 hq
        refine (isBlank_any _ _ _ _ _ hsz (by omega) hbx2).mono ?_
        rintro e w3 ⟨rfl, n3, rfl⟩
        rw [show (trimL (text.extract (2 * j) text.size)).toList.isEmpty = false from HBL.out]
        have hbk3 : LineAt (wB.drewN n3) w.heap.size (2 * j) text nl := hbx2
        have hm3 : Same wc (wB.drewN n3) := hm2.drewN _
        generalize wB.drewN n3 = w3 at hbk3 hm3 ⊢
        clear hbx2 hm2
        go_wp2_with fail
        go_step3
        go_wp2_with fail
        refine (news_any _).mono ?_
        rintro e w4 ⟨nb, rfl, hm4, hnb⟩
        have hm34 := hm3.trans hm4
        have hbk4 := Same.blk hm4 hbk3
        clear hm3 hm4 hbk3
        have HM34 := Lib.hid hm34
        clear hm34
        go_wp2
        go_loopg [88] 8 (fun gg jj wr => ∃ q : Nat, gg = 8 - q ∧ jj = .int .i64 q ∧ q ≤ 8 ∧ Same w4 wr)
        case atStart => exact ⟨0, rfl, rfl, by omega, Mods.refl _ _⟩
        case round =>
          obtain ⟨q, hg, rfl, hk8, hr6⟩ := hrel
          have hr5 := HM34.out.trans hr6
          have hbk5 := Same.blk hr6 hbk4
          have hnb5 := Same.blk hr6 hnb
          obtain ⟨g0, g1, g3, g4, g5, gf0, gf1, gf2, gf3, gf4, gbl⟩ := LineAt.facts hbk5
          have hcases : q = 0 ∨ q = 1 ∨ q = 2 ∨ q = 3 ∨ q = 4 ∨ q = 5 ∨ q = 6 ∨ q = 7 ∨ q = 8 := by omega
          rcases hcases with rfl | rfl | rfl | rfl | rfl | rfl | rfl | rfl | rfl
          · have n0 : wr.cell? ⟨nb, 0, none⟩ = some (.func (.func 95) #[] #[]) := hnb5.cell 0
            go_wp2_with fail
            refine (HTN.out 95 (by simp) wr hr5).mono ?_
            rintro e w6 ⟨rfl, hm6⟩
            clear n0 g0 g1 g3 g4 g5 gf0 gf1 gf2 gf3 gf4 gbl
            go_wp2
            go_roundg 7
            case measure => omega
            case rel => exact ⟨1, rfl, rfl, by omega, (hr6.trans hm6).alloc _⟩
          · have n0 : wr.cell? ⟨nb, 1, none⟩ = some (.func (.func 96) #[] #[]) := hnb5.cell 1
            go_wp2_with fail
            refine (HTN.out 96 (by simp) wr hr5).mono ?_
            rintro e w6 ⟨rfl, hm6⟩
            clear n0 g0 g1 g3 g4 g5 gf0 gf1 gf2 gf3 gf4 gbl
            go_wp2
            go_roundg 6
            case measure => omega
            case rel => exact ⟨2, rfl, rfl, by omega, (hr6.trans hm6).alloc _⟩
          · have n0 : wr.cell? ⟨nb, 2, none⟩ = some (.func (.func 97) #[] #[]) := hnb5.cell 2
            go_wp2_with fail
            refine (HTN.out 97 (by simp) wr hr5).mono ?_
            rintro e w6 ⟨rfl, hm6⟩
            clear n0 g0 g1 g3 g4 g5 gf0 gf1 gf2 gf3 gf4 gbl
            go_wp2
            go_roundg 5
            case measure => omega
            case rel => exact ⟨3, rfl, rfl, by omega, (hr6.trans hm6).alloc _⟩
          · have n0 : wr.cell? ⟨nb, 3, none⟩ = some (.func (.func 98) #[] #[]) := hnb5.cell 3
            go_wp2_with fail
            refine (HTN.out 98 (by simp) wr hr5).mono ?_
            rintro e w6 ⟨rfl, hm6⟩
            clear n0 g0 g1 g3 g4 g5 gf0 gf1 gf2 gf3 gf4 gbl
            go_wp2
            go_roundg 4
            case measure => omega
            case rel => exact ⟨4, rfl, rfl, by omega, (hr6.trans hm6).alloc _⟩
          · have n0 : wr.cell? ⟨nb, 4, none⟩ = some (.func (.func 99) #[] #[]) := hnb5.cell 4
            go_wp2_with fail
            refine (HTN.out 99 (by simp) wr hr5).mono ?_
            rintro e w6 ⟨rfl, hm6⟩
            clear n0 g0 g1 g3 g4 g5 gf0 gf1 gf2 gf3 gf4 gbl
            go_wp2
            go_roundg 3
            case measure => omega
            case rel => exact ⟨5, rfl, rfl, by omega, (hr6.trans hm6).alloc _⟩
          · have n0 : wr.cell? ⟨nb, 5, none⟩ = some (.func (.func 100) #[] #[]) := hnb5.cell 5
            go_wp2_with fail
            refine (HTN.out 100 (by simp) wr hr5).mono ?_
            rintro e w6 ⟨rfl, hm6⟩
            clear n0 g0 g1 g3 g4 g5 gf0 gf1 gf2 gf3 gf4 gbl
            go_wp2
            go_roundg 2
            case measure => omega
            case rel => exact ⟨6, rfl, rfl, by omega, (hr6.trans hm6).alloc _⟩
          · have n0 : wr.cell? ⟨nb, 6, none⟩ = some (.func (.func 101) #[] #[]) := hnb5.cell 6
            go_wp2_with fail
            refine (HTN.out 101 (by simp) wr hr5).mono ?_
            rintro e w6 ⟨rfl, hm6⟩
            clear n0 g0 g1 g3 g4 g5 gf0 gf1 gf2 gf3 gf4 gbl
            go_wp2
            go_roundg 1
            case measure => omega
            case rel => exact ⟨7, rfl, rfl, by omega, (hr6.trans hm6).alloc _⟩
          · have n0 : wr.cell? ⟨nb, 7, none⟩ = some (.func (.func 102) #[] #[]) := hnb5.cell 7
            go_wp2_with fail
            refine (HTN.out 102 (by simp) wr hr5).mono ?_
            rintro e w6 ⟨rfl, hm6⟩
            clear n0 g0 g1 g3 g4 g5 gf0 gf1 gf2 gf3 gf4 gbl
            go_wp2
            go_roundg 0
            case measure => omega
            case rel => exact ⟨8, rfl, rfl, by omega, (hr6.trans hm6).alloc _⟩
          · have h5 := HP3.out.same hr5
            have hO5 := HO1.out.keep hr5 (fun x => x)
            go_wp2_with fail
            refine (newPara_cont bp g (n + 1) cap _ _ bb gt ct m xs j text (2 * j) nl wr h5 rfl (by omega) (by omega) hsz hO5 hpg hm0 hm6).mono ?_
            rintro e w6 ⟨rfl, hm6', gt', ct', hPf, hgt'⟩
            go_wp2
            try rw [Exit.noGoto_normal]
            go_end0
            have hz5 := hr5.size
            refine ⟨rfl, ((HMw.out.mono (fun b _ x => by rcases x with x | x; exact Or.inl x; exact Or.inr (Or.inl x))).then hr5 (fun _ _ x => absurd x (fun x => x))).then hm6' (fun b _ x => by rcases x with x | x | x; exact Or.inr (Or.inl x); exact Or.inr (Or.inr (Or.inl x)); exact Or.inr (Or.inr (Or.inr x))), _, gt', ct', HLQ3.out.upd _ _ _, hPf, ?_⟩
            rcases hgt' with h | h
            · exact Or.inl h
            · exact Or.inr (by omega)
end Go.Proofs.YtdnlfdppjfjncaaGreatDoor

/- closeBlock whatever builder is on top, over the contract of its build; the parent holds what was built. -/
namespace Go.Proofs.YtdnlfdppjfjncaaGreatDoor
open Go Go.RowKit Go.Proofs

/-- What building the top block leaves: the state (with the same stack), the stack's row, the parent's row, and X of what was built. -/
structure BuiltR (R : PSt → Prop) (w wA : World) (bp g n cap ni : Nat) (p : PSt) (l li : List Value) (inner : Value) (SA : Nat → Prop) (X : World → Value → Prop) (v : Value) (p' : PSt) : Prop where
  r : R p'
  mods : Mods SA w wA
  at_ : PsAt wA bp p'
  stack : p'.stack = p.stack
  row : wA.ownsRow 0 121 4 (.slice (some ⟨g, 0, none⟩) n cap) n l
  inn : wA.ownsRow 0 68 1 inner ni li
  x : X wA v

set_option maxRecDepth 100000 in
set_option maxHeartbeats 4000000 in
theorem close_genR (R : PSt → Prop) (bp g n cap ni : Nat) (p : PSt) (l li : List Value) (c inner i : Value) (T fb TB : Nat) (a : Option Addr) (sp ep sl el : Int) (SA : Nat → Prop) (X : World → Value → Prop) (w : World) (hp : PsAt w bp p) (hst : p.stack = .slice (some ⟨g, 0, none⟩) (n + 1 + 1) cap) (hn : n ≤ 100)
    (hown : w.ownsRow 0 121 4 (.slice (some ⟨g, 0, none⟩) (n + 1 + 1) cap) (n + 1 + 1) ((l ++ [c, inner, .int .i64 sp, .int .i64 ep]) ++ [.iface T (.pointer a), i, .int .i64 sl, .int .i64 el]))
    (_hin : w.ownsRow 0 68 1 inner ni li) (hni : ni ≤ 100000)
    (hM : ∀ (k : Nat) (w : World), (method (k + 1) T (.pointer a) "pub-paratext/pub/rscmarkdown.build").run Tryz.prog w = .ok (fb, .pointer a) w) (hTB : TB ≠ 111)
    (hF : ∀ (args : Array Value) (w : World), (callFunc fb args).run Tryz.prog w = .ok (.enter fb args) w)
    (hB : ∀ W, Same w W → Calls Tryz.prog fb #[.pointer a, .iface 116 (.pointer (some ⟨bp, 0, none⟩))] W fun e wA => ∃ bv p', e = .returned (.iface TB (.pointer bv)) ∧
      BuiltR R W wA bp g (n + 1 + 1) cap ni p ((l ++ [c, inner, .int .i64 sp, .int .i64 ep]) ++ [.iface T (.pointer a), i, .int .i64 sl, .int .i64 el]) li inner SA X (.pointer bv) p')
    (hX : ∀ W W' v, (∃ q, PsAt W bp q) → (∃ cur, Blk W g cur 121) → X W v → Mods (fun k => k = bp ∨ k = g ∨ inner.ownBlock = some k) W W' → X W' v) :
    Calls Tryz.prog 73 #[.pointer (some ⟨bp, 0, none⟩)] w fun e w' => ∃ bv p', e = .returned (.iface TB (.pointer bv)) ∧ p'.stack = p.stack ∧ R p' ∧ GenClosed w w' bp g n cap ni p' l li c inner sp ep SA X TB (.pointer bv) := by
  obtain ⟨c0, c1, c2, c3, cf, cl⟩ := row_cells hown
  have k4 := hp.stack
  rw [hst] at k4
  have hbl := hp.lt
  have w1 : IntKind.i64.wrap ((n : Int) + 1) = (n : Int) + 1 := IntWalk.i64_in _ (by omega)
  have w2 : (0 : Int) ≤ (n : Int) + 1 := by omega
  have w3 : (n : Int) + 1 < (n : Int) + 1 + 1 := by omega
  have w4 : ((n : Int) + 1).toNat = n + 1 := by omega
  have hE := eql_builder_nil
  have HX := Lib.hid hX
  clear cf hX
  go_enter Tryz.func73, Tryz.ntmps73
  go_wp2_with fail
  go_quiet (fail)
  go_wp2_with fail
  have hD : Same w (w.drewN nq) := (Mods.refl _ w).drewN nq
  generalize hW : (w.drewN nq : World) = W at *
  clear hW
  have hBW := hB W hD
  clear hB
  refine hBW.mono ?_
  rintro e wA ⟨bv, p', rfl, hPB⟩
  obtain ⟨hR, hmA, hpA, hstA, hownA, hinA, hxA⟩ := hPB
  clear c0 c1 c2 c3 k4 hbl
  have k4 := hpA.stack
  have f4 := hpA.fr 4
  have hbl := hpA.lt
  have hL2 := fun X v w => as_List_no TB X v w hTB
  have HST := Lib.hid hstA
  rw [hstA, hst] at k4
  have hcap : n + 1 + 1 ≤ cap := by
    rcases hownA.2 with ⟨h, _⟩ | ⟨_, _, _, h, _, _, hc, _⟩
    · cases h
    · cases h; exact hc
  have w5 : (n : Int) + 1 ≤ cap := by omega
  have w6 : IntKind.i64.wrap (n : Int) = n := IntWalk.i64_in _ (by omega)
  have w7 : (0 : Int) < (n : Int) + 1 := by omega
  have w8 : (n : Int) < (n : Int) + 1 := by omega
  have w9 : (0 : Int) ≤ (n : Int) := by omega
  clear hE hM hF hstA
  go_wp2_with fail
  go_region
  go_wp2_with fail
  generalize hX : ((wA.setCell ⟨bp, 4, none⟩ (.slice (some ⟨g, 0, none⟩) (n + 1) cap)).drew : World) = Y
  have hmX : Mods (fun k => k = bp) wA Y := by subst hX; exact ((Mods.refl (fun k => k = bp) wA).setCell (p := ⟨bp, 4, none⟩) (fun _ => rfl) _).drew
  have hpX : PsAt Y bp { p' with stack := .slice (some ⟨g, 0, none⟩) (n + 1) cap } := by
    subst hX
    exact PsAt.drew (hpA.set 4 _ _ rfl (by decide))
  clear hX
  have hownX := ownsRow_keep hownA hmX (fun k hk x => own_ne_ps hownA hpA (by decide) (by rw [← x]; exact hk))
  have hinX := ownsRow_keep hinA hmX (fun k hk x => own_ne_ps hinA hpA (by decide) (by rw [← x]; exact hk))
  have hownP := ownsRow_pop hownX rfl
  obtain ⟨d0, d1, d2, d3, df, dl⟩ := row_cells hownP
  clear k4 f4 hbl
  have k4 := hpX.stack
  have hbl := hpX.lt
  go_quiet (fail)
  go_wp2_with (at_builtin; refine ap_blk rfl (.tmp 106) (.tmp 108) rfl inner ni li rfl ((ownsRow_keep hinX ((Mods.refl (fun _ => False) Y).drewN nq) (fun _ _ x => x)).alloc _) Y.heap.size 1 _ (.pointer bv) rfl ((Blk.newAt _ _ rfl).cell 0) (by omega) ?_)
  intro ig ic wB hinB hgrow hloc
  generalize hZ : ((Y.drewN nq).alloc _ : World) = Z at *
  have hmZ : Same Y Z := by subst hZ; exact ((Mods.refl _ Y).drewN nq).alloc _
  have hZs : Z.heap.size = Y.heap.size + 1 := by subst hZ; simp
  clear hZ
  have hmB := grown_mods hgrow
  have hinZ := ownsRow_keep hinX hmZ (fun _ _ x => x)
  have hpB := (hpX.same hmZ).keep hmB (own_ne_ps hinZ (hpX.same hmZ) (by decide))
  have hownB := ownsRow_keep (ownsRow_keep hownP hmZ (fun _ _ x => x)) hmB (fun k hk => own_ne_row hinZ (ownsRow_keep hownP hmZ (fun _ _ x => x)) hk (by decide))
  obtain ⟨q0, q1, q2, q3, qf, ql⟩ := row_cells hownB
  have qf1 := qf (n * 4 + 1)
  clear qf df d0 d1 d2 d3
  go_wp2
  go_ret
  have hgbp : g ≠ bp := fun h => own_ne_ps hownB hpB (by decide) (by rw [h]; rfl)
  have hmF : Mods (fun k => k = g) wB (wB.setCell ⟨g, n * 4 + 1, none⟩ (.slice (some ⟨ig, 0, none⟩) (ni + 1) ic)) := (Mods.refl (fun k => k = g) wB).setCell (p := ⟨g, n * 4 + 1, none⟩) (fun _ => rfl) _
  have hlen : l.length = n * 4 := by have := hownB.1; simp at this; omega
  have hgrow4 : Mods (fun k => k = bp ∨ k = g ∨ inner.ownBlock = some k) wA (wB.setCell ⟨g, n * 4 + 1, none⟩ (.slice (some ⟨ig, 0, none⟩) (ni + 1) ic)) := by
    have m1 := hmX.mono (S' := fun k => k = bp ∨ k = g ∨ inner.ownBlock = some k) (fun _ _ h => Or.inl h)
    have m2 := m1.then hmZ (fun _ _ h => absurd h (fun x => x))
    have m3 := m2.then hmB (fun _ _ h => Or.inr (Or.inr h))
    exact m3.then hmF (fun _ _ h => Or.inr (Or.inl h))
  refine ⟨bv, p', rfl, HST.out, hR, ?_, ⟨ig, ic, hpB.set_other (a := ⟨g, n * 4 + 1, none⟩) hgbp _, row_in hlen rfl hownB, ?_, ?_⟩, ?_⟩
  · exact ((hD.mono (S' := fun k => SA k ∨ k = bp ∨ k = g ∨ inner.ownBlock = some k) (fun _ _ h => absurd h (fun x => x))).then hmA (fun _ _ h => Or.inl h)).then hgrow4 (fun _ _ h => Or.inr h)
  · exact ownsRow_keep hinB hmF (fun k hk he => own_ne_row hinB hownB (g := g) rfl (by decide) (by rw [← he]; exact hk))
  · rcases hloc with h | h
    · exact Or.inl h
    · right
      have h1 := hD.size
      have h2 := hmA.size
      have h3 := hmX.size
      have h4 := hmZ.size
      omega
  · obtain ⟨gx, _, he, ⟨cur, hcur⟩, _, _⟩ := ownsRow_form hownA (by omega)
    cases he
    exact HX.out wA _ _ ⟨p', hpA⟩ ⟨cur, hcur⟩ hxA hgrow4
end Go.Proofs.YtdnlfdppjfjncaaGreatDoor

/- (*Parser).parse of a paragraph of some lines, over a plan of its text. -/
namespace Go.Proofs.YtdnlfdppjfjncaaGreatDoor
open Go Go.RowKit Go.Proofs

/-- The open blocks: the document, and a paragraph below it. -/
def twoOB (rv pv : Value) (ea eb : Int) : List OB := [⟨rv, .slice none 0 0, 0, ea⟩, ⟨pv, .slice none 0 0, 1, eb⟩]
theorem twoOB_upd (rv pv : Value) (ea eb m : Int) : updE (twoOB rv pv ea eb) 0 2 m = twoOB rv pv m m := by
  simp [updE, twoOB, List.mapIdx, List.mapIdx.go]

/-- What stands of the document when both blocks are closed. -/
structure ManyClosed (w w' : World) (bp g cap pp k : Nat) (s : ByteArray) : Prop where
  mods : Mods (fun k => k = bp ∨ k = g) w w'
  ex : ∃ rk pk tb tg tc ig ic x y x2 y2, w.heap.size ≤ rk ∧ w.heap.size ≤ pk ∧ w.heap.size ≤ tb ∧
    Blk w' rk #[.int .i64 x, .int .i64 y, .slice (some ⟨ig, 0, none⟩) 1 ic, .map none] 339 ∧
    Blk w' pk #[.int .i64 x2, .int .i64 y2, .pointer (some ⟨tb, 0, none⟩)] 155 ∧
    Blk w' tb #[.int .i64 x2, .int .i64 y2, .slice none 0 0, .string s] 110 ∧
    PsAt w' bp { p2 pp g cap with lineno := (k : Nat), texts := .slice (some ⟨tg, 0, none⟩) 1 tc, stack := .slice (some ⟨g, 0, none⟩) 0 cap, root := .pointer (some ⟨rk, 0, none⟩) } ∧
    w'.ownsRow 0 105 1 (.slice (some ⟨tg, 0, none⟩) 1 tc) 1 [.pointer (some ⟨tb, 0, none⟩)] ∧
    w'.ownsRow 0 68 1 (.slice (some ⟨ig, 0, none⟩) 1 ic) 1 [.iface 153 (.pointer (some ⟨pk, 0, none⟩))]

theorem closed_many (bp g cap pp k gt ct bb : Nat) (v : Option Addr) (ea eb : Int) (ls : List ByteArray) (w : World) (hT : ParaText ls) (hk : ls.length = k)
    (h : ParaL w bp g 1 cap { p2 pp g cap with lineno := (k : Nat) } (twoOB (.iface 98 (.pointer v)) (.iface 162 (.pointer (some ⟨bb, 0, none⟩))) ea eb) bb gt ct k ls) :
    Calls Tryz.prog 65 #[.pointer (some ⟨bp, 0, none⟩), .int .i64 0] w fun e w' => e = .returned (.tuple #[]) ∧ ManyClosed w w' bp g cap pp k (joinT ls) := by
  obtain ⟨l0, r0, hl0⟩ : ∃ l r, ls = l :: r := by
    cases hls : ls with
    | nil => exact absurd hls hT.ne
    | cons l r => exact ⟨l, r, rfl⟩
  have hp0 := hT.pos l0 (by rw [hl0]; simp)
  obtain ⟨hj0, hj1⟩ := joinT_first (r := r0) hp0
  rw [← hl0] at hj0
  have hjf : (joinT ls)[0] = l0[0] := by simpa only [hl0] using hj1
  have hk0 : 0 < k := by rw [← hk, hl0]; simp
  have hkc := hT.count
  have hsm := hT.small
  obtain ⟨_, _, he, ⟨curT, hcurT⟩, _, hc⟩ := ownsRow_form h.txt hk0
  cases he
  have hcap : k ≤ ct := by
    rcases h.txt.2 with ⟨h, _⟩ | ⟨_, _, _, h, _, _, hc, _⟩
    · cases h
    · cases h; exact hc
  have hJ : ∀ W, Same w W → Calls Tryz.prog 29 #[.slice (some ⟨gt, 0, none⟩) k ct, .string ⟨#[10]⟩] W fun e W' => e = .returned (.string (joinT ls)) ∧ Same W W' := by
    intro W hW
    subst hk
    refine (Tryz.strings_Join gt 0 ct ls ⟨#[10]⟩ W ?_ (Nat.lt_of_lt_of_le hcurT.lt hW.size) (by omega) hcap ?_).mono ?_
    · intro j x hx
      have := hc j (.string x) (by rw [List.getElem?_map, hx]; rfl)
      rw [Nat.zero_add]
      exact (World.cell?_of_block (hW.block gt hcurT.lt (fun x => x))).trans this
    · have e1 : (Lib.join (ls.map (·.data.toList)) (⟨#[10]⟩ : ByteArray).data.toList).length = (joinT ls).size := by rw [size_list, joinT_list]
      rw [e1]; omega
    · rintro e w' ⟨h1, h2⟩
      exact ⟨h1, Below.mods h2 (fun k hk hk2 => absurd hk (by omega))⟩
  have h91 : (joinT ls)[0] ≠ 91 := by rw [hjf]; exact hT.no91 l0 r0 hl0 hp0
  have h10 : (joinT ls)[0] ≠ 10 := by rw [hjf]; exact hT.no10 l0 (by rw [hl0]; simp) 0 hp0
  have h9 : (joinT ls)[0] ≠ 9 := by rw [hjf]; exact hT.no9 l0 (by rw [hl0]; simp) 0 hp0
  have h32 : (joinT ls)[0] ≠ 32 := by
    rw [hjf]
    have := hT.first l0 (by rw [hl0]; simp) hp0
    intro h; rw [h] at this; cases this
  have hrow : w.ownsRow 0 121 4 (.slice (some ⟨g, 0, none⟩) (0 + 1 + 1) cap) (0 + 1 + 1) (([] ++ [.iface 98 (.pointer v), .slice none 0 0, .int .i64 0, .int .i64 ea]) ++ [.iface 162 (.pointer (some ⟨bb, 0, none⟩)), .slice none 0 0, .int .i64 1, .int .i64 eb]) := h.row
  have hcl := closePara bp bb g 0 cap 0 0 { p2 pp g cap with lineno := (k : Nat) } [] [] [] (.iface 98 (.pointer v)) (.slice none 0 0) (.slice none 0 0) (.slice (some ⟨gt, 0, none⟩) k ct) 0 ea 1 eb k (joinT ls) w h.at_ rfl (by omega) hrow ⟨rfl, Or.inl ⟨rfl, rfl⟩⟩ (by omega) h.blk ⟨_, _, rfl⟩ (by omega)
    ⟨rfl, Or.inl ⟨rfl, rfl⟩⟩ (by omega) hJ hj0 (by omega) h32 h9 h10 h91 (by omega) (by omega)
  have hgen := trimStack_gen bp 0 (fun j W => match j with
    | 2 => W = w
    | 1 => ∃ u, ParaClosed w W bp g 0 cap 0 0 { p2 pp g cap with lineno := (k : Nat) } [] [] [] (.iface 98 (.pointer v)) (.slice none 0 0) 0 ea 1 (1 + (k : Int) - 1) (joinT ls) u
    | 0 => ManyClosed w W bp g cap pp k (joinT ls)
    | _ => False) (by omega) ?_ ?_ 2 w rfl
  · exact hgen
  · intro j W hP
    match j, hP with
    | 2, hP => subst hP; exact ⟨by omega, _, _, h.at_.stack⟩
    | 1, ⟨u, hPC⟩ =>
      obtain ⟨pk, tb, tg, tc, ig, ic, _, _, _, _, _, h, _⟩ := hPC.ex
      exact ⟨by omega, _, _, h.stack⟩
    | 0, hP =>
      obtain ⟨rk, pk, tb, tg, tc, ig, ic, _, _, _, _, _, _, _, _, _, _, h, _⟩ := hP.ex
      exact ⟨by omega, _, _, h.stack⟩
  · intro j W hP
    match j, hP with
    | 1, hP => subst hP; exact hcl.mono fun e w' ⟨v1, h1, h2⟩ => ⟨v1, h1, v1, h2⟩
    | 0, ⟨u, hPC⟩ =>
      obtain ⟨pk, tb, tg, tc, ig, ic, _, hpk, htb, hPb, hTb, hps, htx, hrow, hin⟩ := hPC.ex
      refine (closeRoot bp g cap _ v (some ⟨ig, 0, none⟩) 1 ic none 0 ea W hps rfl hrow rfl).mono ?_
      rintro e W' ⟨u', rfl, hm, rk, hrk, hR, hps'⟩
      have h1 := hPC.mods.size
      have hne : ∀ {b : Nat} {cs : Array Value} {T : Nat}, Blk W b cs T → T ≠ 95 → ¬ (b = bp) := fun h hT => by
        obtain ⟨tail, htl⟩ := id hps
        exact h.ne_of_type htl hT
      refine ⟨u', rfl, ?_, rk, pk, tb, tg, tc, ig, ic, _, _, _, _, by omega, hpk, htb, hR, hPb.keep hm (hne hPb (by decide)), hTb.keep hm (hne hTb (by decide)), hps', ?_, ?_⟩
      · refine (hPC.mods.mono (fun k _ h => ?_)).trans (hm.mono (fun _ _ h => Or.inl h))
        rcases h with h | h | h | h
        · exact Or.inl h
        · exact Or.inr h
        · cases h
        · cases h
      · exact ownsRow_keep htx hm (fun k hk x => own_ne_ps htx hps (by decide) (by rw [← x]; exact hk))
      · exact ownsRow_keep hin hm (fun k hk x => own_ne_ps hin hps (by decide) (by rw [← x]; exact hk))
end Go.Proofs.YtdnlfdppjfjncaaGreatDoor

/- The quotations are closed: each holds what was built inside it. -/
namespace Go.Proofs.YtdnlfdppjfjncaaGreatDoor
open Go Go.RowKit Go.Proofs

theorem m_build_quote (k : Nat) (a : Option Addr) (w : World) : (method (k + 1) 224 (.pointer a) "pub-paratext/pub/rscmarkdown.build").run Tryz.prog w = .ok (329, .pointer a) w := by kernel_rfl
theorem f_build_quote (args : Array Value) (w : World) : (callFunc 329 args).run Tryz.prog w = .ok (.enter 329 args) w := by kernel_rfl

set_option maxHeartbeats 4000000 in
theorem quoteBuild_any (bp g n cap : Nat) (p : PSt) (l : List Value) (c : Value) (ia : Option Addr) (ni ic : Nat) (s e : Int) (v : Option Addr) (w : World) (hp : PsAt w bp p) (hst : p.stack = .slice (some ⟨g, 0, none⟩) (n + 1) cap) (hn : n ≤ 1000)
    (hown : w.ownsRow 0 121 4 (.slice (some ⟨g, 0, none⟩) (n + 1) cap) (n + 1) (l ++ [c, .slice ia ni ic, .int .i64 s, .int .i64 e])) :
    Calls Tryz.prog 329 #[.pointer v, .iface 116 (.pointer (some ⟨bp, 0, none⟩))] w fun e' w' => ∃ qb, e' = .returned (.iface 365 (.pointer (some ⟨qb, 0, none⟩))) ∧ w.heap.size ≤ qb ∧ Same w w' ∧
      Blk w' qb #[.int .i64 s, .int .i64 e, .slice ia ni ic] 367 := by
  have HP : ∀ W, Same w W → Calls Tryz.prog 260 #[.pointer (some ⟨bp, 0, none⟩)] W fun e' W' => e' = .returned (.agg #[.int .i64 s, .int .i64 e]) ∧ Same w W' := fun W hW =>
    (pos_any bp g n cap p l c (.slice ia ni ic) s e W (hp.same hW) hst hn (ownsRow_keep hown hW (fun _ _ x => x))).mono fun _ _ h => ⟨h.1, hW.trans h.2⟩
  have HB : ∀ W, Same w W → Calls Tryz.prog 259 #[.pointer (some ⟨bp, 0, none⟩)] W fun e' W' => e' = .returned (.slice ia ni ic) ∧ Same w W' := fun W hW =>
    (blocks_any bp g n cap p l c (.slice ia ni ic) s e W (hp.same hW) hst hn (ownsRow_keep hown hW (fun _ _ x => x))).mono fun _ _ h => by
      obtain ⟨h1, k, hk⟩ := h
      subst hk
      exact ⟨h1, hW.drewN k⟩
  have M1 := m_pos0
  have M2 := m_blocks
  go_enter Tryz.func329, Tryz.ntmps329
  go_wp2_with fail
  refine (HP _ (by repeat (first | exact Mods.refl _ _ | apply Mods.drew | apply Mods.drewN | apply Mods.alloc))).mono ?_
  rintro e1 w1 ⟨rfl, hS1⟩
  go_wp2_with fail
  refine (HB _ (by repeat (first | assumption | apply Mods.drew | apply Mods.drewN | apply Mods.alloc))).mono ?_
  rintro e2 w2 ⟨rfl, hS2⟩
  go_wp2
  go_ret
  exact ⟨_, rfl, hS2.size, hS2.alloc _, Blk.newAt _ _ rfl⟩

/-- n quotations, one in the other, and a paragraph in the last. -/
def QAt (w : World) (tb : Nat) : Nat → Value → Prop
  | 0, v => ∃ pk x y, v = .iface 153 (.pointer (some ⟨pk, 0, none⟩)) ∧ Blk w pk #[.int .i64 x, .int .i64 y, .pointer (some ⟨tb, 0, none⟩)] 155
  | n + 1, v => ∃ qb x y ig ic u, v = .iface 365 (.pointer (some ⟨qb, 0, none⟩)) ∧ Blk w qb #[.int .i64 x, .int .i64 y, .slice (some ⟨ig, 0, none⟩) 1 ic] 367 ∧
    w.ownsRow 0 68 1 (.slice (some ⟨ig, 0, none⟩) 1 ic) 1 [u] ∧ QAt w tb n u

theorem QAt.keep {S : Nat → Prop} {w w' : World} {tb : Nat} (hm : Mods S w w') (hS : ∀ b cs T, Blk w b cs T → T = 155 ∨ T = 367 ∨ T = 68 → ¬ S b) : ∀ (n : Nat) (v : Value), QAt w tb n v → QAt w' tb n v
  | 0, v, ⟨pk, x, y, h1, h2⟩ => ⟨pk, x, y, h1, h2.keep hm (hS _ _ _ h2 (Or.inl rfl))⟩
  | n + 1, v, ⟨qb, x, y, ig, ic, u, h1, h2, h3, h4⟩ => by
    refine ⟨qb, x, y, ig, ic, u, h1, h2.keep hm (hS _ _ _ h2 (Or.inr (Or.inl rfl))), ownsRow_keep h3 hm (fun b hb => ?_), QAt.keep hm hS n u h4⟩
    cases hb
    obtain ⟨_, _, he, ⟨cur, hcur⟩, _, _⟩ := ownsRow_form h3 (by omega)
    cases he
    exact hS _ _ _ hcur (Or.inr (Or.inr rfl))

/-- k blocks are still open; what was built inside the last one is x. -/
structure QC (w W : World) (bp g cap k : Nat) (p : PSt) (m : Nat) (s : ByteArray) (ig ic : Nat) (x : Value) : Prop where
  mods : Mods (fun b => b = bp ∨ b = g) w W
  ex : ∃ tb tg tc a b, w.heap.size ≤ tb ∧ QAt W tb m x ∧ Blk W tb #[.int .i64 a, .int .i64 b, .slice none 0 0, .string s] 110 ∧
    W.ownsRow 0 105 1 (.slice (some ⟨tg, 0, none⟩) 1 tc) 1 [.pointer (some ⟨tb, 0, none⟩)] ∧
    PsAt W bp { p with texts := .slice (some ⟨tg, 0, none⟩) 1 tc, stack := .slice (some ⟨g, 0, none⟩) k cap }
  inn : W.ownsRow 0 68 1 (.slice (some ⟨ig, 0, none⟩) 1 ic) 1 [x]

theorem take_cells {L : List OB} {j : Nat} {o : OB} (h : L[j]? = some o) : obCells (L.take (j + 1)) = obCells (L.take j) ++ o.cells := by
  rw [List.take_add_one, h]
  exact obCells_snoc o _

set_option maxHeartbeats 1000000 in
/-- One quotation is closed. -/
theorem closeQuote (bp g cap j m : Nat) (p : PSt) (L : List OB) (s : ByteArray) (o o' : OB) (b ig ic : Nat) (x : Value) (w W : World) (hj : j ≤ 100) (h : QC w W bp g cap (j + 1 + 1) p m s ig ic x) (h1 : L[j]? = some o) (hin : o.inner = .slice none 0 0) (_h2 : L[j + 1]? = some o') (hb : o'.b = .iface 224 (.pointer (some ⟨b, 0, none⟩)))
    (hrow : W.ownsRow 0 121 4 (.slice (some ⟨g, 0, none⟩) (j + 1 + 1) cap) (j + 1 + 1) (obCells (L.take (j + 1)) ++ [o'.b, .slice (some ⟨ig, 0, none⟩) 1 ic, .int .i64 o'.s, .int .i64 o'.e])) :
    Calls Tryz.prog 73 #[.pointer (some ⟨bp, 0, none⟩)] W fun e W' => ∃ u, e = .returned u ∧ ∃ ig' ic' x', QC w W' bp g cap (j + 1) p (m + 1) s ig' ic' x' ∧
      W'.ownsRow 0 121 4 (.slice (some ⟨g, 0, none⟩) (j + 1) cap) (j + 1) (obCells (L.take j) ++ [o.b, .slice (some ⟨ig', 0, none⟩) 1 ic', .int .i64 o.s, .int .i64 o.e]) := by
  obtain ⟨tb, tg, tc, x1, y1, htb, hQ, hT, hTx, hps⟩ := h.ex
  rw [take_cells h1, OB.cells, hin, hb] at hrow
  have hc := close_genR (fun q => q = { p with texts := .slice (some ⟨tg, 0, none⟩) 1 tc, stack := .slice (some ⟨g, 0, none⟩) (j + 1 + 1) cap }) bp g j cap 0 _ (obCells (L.take j)) [] o.b (.slice none 0 0) (.slice (some ⟨ig, 0, none⟩) 1 ic) 224 329 365 (some ⟨b, 0, none⟩) o.s o.e o'.s o'.e (fun _ => False)
    (fun V v => Blk V tb #[.int .i64 x1, .int .i64 y1, .slice none 0 0, .string s] 110 ∧ V.ownsRow 0 105 1 (.slice (some ⟨tg, 0, none⟩) 1 tc) 1 [.pointer (some ⟨tb, 0, none⟩)] ∧ QAt V tb (m + 1) (.iface 365 v)) W hps rfl hj hrow
    ⟨rfl, Or.inl ⟨rfl, rfl⟩⟩ (by omega) (fun k w => m_build_quote k _ w) (by decide) f_build_quote ?_ ?_
  · refine hc.mono ?_
    rintro e W' ⟨bv, p', rfl, hst, rfl, hm, ⟨ig', ic', a1, a2, a3, _⟩, hx⟩
    refine ⟨_, rfl, ig', ic', _, ⟨h.mods.trans (hm.mono fun k _ h => ?_), ⟨tb, tg, tc, x1, y1, htb, hx.2.2, hx.1, hx.2.1, a1⟩, a3⟩, a2⟩
    rcases h with h | h | h | h
    · cases h
    · exact Or.inl h
    · exact Or.inr h
    · cases h
  · intro V hV
    refine (quoteBuild_any bp g (j + 1) cap _ _ _ _ _ _ _ _ _ V (hps.same hV) rfl (by omega) (ownsRow_keep hrow hV (fun _ _ x => x))).mono ?_
    rintro e wA ⟨qb, rfl, hqb, hmA, hB⟩
    have hVA := Mods.trans hV hmA
    refine ⟨some ⟨qb, 0, none⟩, _, rfl, rfl, hmA, hps.same hVA, rfl, ownsRow_keep hrow hVA (fun _ _ x => x), ⟨rfl, Or.inl ⟨rfl, rfl⟩⟩, Same.blk hVA hT, ownsRow_keep hTx hVA (fun _ _ x => x), ?_⟩
    exact ⟨qb, _, _, ig, ic, x, rfl, hB, ownsRow_keep h.inn hVA (fun _ _ x => x), QAt.keep hVA (fun _ _ _ _ _ x => x) _ _ hQ⟩
  · rintro V V' v ⟨q, hq⟩ ⟨cur, hcur⟩ ⟨hx1, hx2, hx3⟩ hm
    obtain ⟨tail, htl⟩ := id hq
    have hno : ∀ (b : Nat) (cs : Array Value) (T : Nat), Blk V b cs T → T ≠ 95 → T ≠ 121 → ¬ (b = bp ∨ b = g ∨ (Value.slice none 0 0).ownBlock = some b) := by
      intro b cs T hb h1 h2 h
      rcases h with h | h | h
      · exact hb.ne_of_type htl h1 h
      · exact hb.ne_of_type hcur h2 h
      · cases h
    refine ⟨hx1.keep hm (hno _ _ _ hx1 (by decide) (by decide)), ownsRow_keep hx2 hm (fun b hb => ?_), QAt.keep hm (fun b cs T hb hT => ?_) _ _ hx3⟩
    · cases hb
      obtain ⟨_, _, he, ⟨cur2, hcur2⟩, _, _⟩ := ownsRow_form hx2 (by omega)
      cases he
      exact hno _ _ _ hcur2 (by decide) (by decide)
    · refine hno b cs T hb ?_ ?_
      · rcases hT with rfl | rfl | rfl <;> decide
      · rcases hT with rfl | rfl | rfl <;> decide
end Go.Proofs.YtdnlfdppjfjncaaGreatDoor

/- The paragraph, the quotations around it and the document are closed. -/
namespace Go.Proofs.YtdnlfdppjfjncaaGreatDoor
open Go Go.RowKit Go.Proofs

/-- All is closed: the document holds n quotations. -/
def QAll (w W : World) (bp g cap n : Nat) (p : PSt) (s : ByteArray) : Prop :=
  ∃ rk ig ic x a b, w.heap.size ≤ rk ∧ Blk W rk #[.int .i64 a, .int .i64 b, .slice (some ⟨ig, 0, none⟩) 1 ic, .map none] 339 ∧ QC w W bp g cap 0 { p with root := .pointer (some ⟨rk, 0, none⟩) } n s ig ic x

theorem join_call (gt ct : Nat) (ls : List ByteArray) (w : World) (h0 : 0 < ls.length) (h6 : ls.length ≤ 100000) (hs : (joinT ls).size ≤ 1000000) (h : w.ownsRow 0 9 1 (.slice (some ⟨gt, 0, none⟩) ls.length ct) ls.length (ls.map .string)) :
    ∀ W, Same w W → Calls Tryz.prog 29 #[.slice (some ⟨gt, 0, none⟩) ls.length ct, .string ⟨#[10]⟩] W fun e W' => e = .returned (.string (joinT ls)) ∧ Same W W' := by
  intro W hW
  obtain ⟨_, _, he, ⟨curT, hcurT⟩, _, hc⟩ := ownsRow_form h h0
  cases he
  have hcap : ls.length ≤ ct := by
    rcases h.2 with ⟨h, _⟩ | ⟨_, _, _, h, _, _, hc, _⟩
    · cases h
    · cases h; exact hc
  refine (Tryz.strings_Join gt 0 ct ls ⟨#[10]⟩ W ?_ (Nat.lt_of_lt_of_le hcurT.lt hW.size) (by omega) hcap ?_).mono ?_
  · intro j x hx
    have := hc j (.string x) (by rw [List.getElem?_map, hx]; rfl)
    rw [Nat.zero_add]
    exact (World.cell?_of_block (hW.block gt hcurT.lt (fun x => x))).trans this
  · have e1 : (Lib.join (ls.map (·.data.toList)) (⟨#[10]⟩ : ByteArray).data.toList).length = (joinT ls).size := by rw [size_list, joinT_list]
    rw [e1]; omega
  · rintro e w' ⟨h1, h2⟩
    exact ⟨h1, Below.mods h2 (fun k hk hk2 => absurd hk (by omega))⟩

/-- What a paragraph's text must be. -/
structure JT (s : ByteArray) : Prop where
  pos : 0 < s.size
  small : s.size ≤ 1000000
  c32 : s[0] ≠ 32
  c9 : s[0] ≠ 9
  c10 : s[0] ≠ 10
  c91 : s[0] ≠ 91

set_option maxHeartbeats 1000000 in
theorem closed_quotes (bp g cap n m gt ct bb : Nat) (p : PSt) (L : List OB) (ls : List ByteArray) (w : World) (h : ParaL w bp g (n + 1) cap p L bb gt ct m ls) (hLQ : LQ n bb L) (hn : n ≤ 50) (hm : ls.length = m) (hm0 : 0 < m) (hm6 : m ≤ 100000) (hJ : JT (joinT ls)) (htx : p.texts = .slice none 0 0) (hlk : p.links = .map none) :
    Calls Tryz.prog 65 #[.pointer (some ⟨bp, 0, none⟩), .int .i64 0] w fun e w' => e = .returned (.tuple #[]) ∧ QAll w w' bp g cap n p (joinT ls) := by
  subst hm
  have hlen := hLQ.1
  have hgen := trimStack_gen bp 0 (fun k W => (k = n + 2 ∧ W = w) ∨
    (∃ j, k = j + 1 ∧ j ≤ n ∧ ∃ ig ic x o, L[j]? = some o ∧ QC w W bp g cap (j + 1) p (n - j) (joinT ls) ig ic x ∧
      W.ownsRow 0 121 4 (.slice (some ⟨g, 0, none⟩) (j + 1) cap) (j + 1) (obCells (L.take j) ++ [o.b, .slice (some ⟨ig, 0, none⟩) 1 ic, .int .i64 o.s, .int .i64 o.e])) ∨
    (k = 0 ∧ QAll w W bp g cap n p (joinT ls))) (by omega) ?_ ?_ (n + 2) w (Or.inl ⟨rfl, rfl⟩)
  · refine hgen.mono ?_
    rintro e W ⟨he, hP⟩
    refine ⟨he, ?_⟩
    rcases hP with ⟨h, _⟩ | ⟨j, h, _⟩ | ⟨_, h⟩
    · omega
    · omega
    · exact h
  · rintro k W (⟨rfl, rfl⟩ | ⟨j, rfl, hj, ig, ic, x, o, _, hQ, _⟩ | ⟨rfl, rk, ig, ic, x, a, b, _, _, hQ⟩)
    · exact ⟨by omega, _, _, by rw [Nat.zero_add]; rw [← h.stack]; exact h.at_.stack⟩
    · obtain ⟨tb, tg, tc, a, b, _, _, _, _, hps⟩ := hQ.ex
      exact ⟨by omega, _, _, by rw [Nat.zero_add]; exact hps.stack⟩
    · obtain ⟨tb, tg, tc, a, b, _, _, _, _, hps⟩ := hQ.ex
      exact ⟨by omega, _, _, hps.stack⟩
  · rintro k W (⟨hk, rfl⟩ | ⟨j, hk, hj, ig, ic, x, o, ho, hQ, hrow⟩ | ⟨h, _⟩)
    · have hk : k = n + 1 := by omega
      subst hk
      obtain ⟨o1, ho1, hb1⟩ := hLQ.para
      obtain ⟨o0, ho0⟩ : ∃ o, L[n]? = some o := ⟨_, List.getElem?_eq_getElem (by omega)⟩
      obtain ⟨hi1, hs1, _⟩ := hLQ.2 _ _ ho1
      obtain ⟨hi0, hs0, _⟩ := hLQ.2 _ _ ho0
      have hL : L = L.take (n + 1 + 1) := by rw [List.take_of_length_le (by omega)]
      have hrow := h.row
      rw [hL, take_cells ho1, take_cells ho0, OB.cells, OB.cells, hi1, hi0, hb1] at hrow
      have hcl := closePara bp bb g n cap 0 0 p (obCells (L.take n)) [] [] o0.b (.slice none 0 0) (.slice none 0 0) (.slice (some ⟨gt, 0, none⟩) ls.length ct) o0.s o0.e o1.s o1.e ls.length (joinT ls) W h.at_ h.stack (by omega) hrow ⟨rfl, Or.inl ⟨rfl, rfl⟩⟩ (by omega) h.blk ⟨_, _, rfl⟩ hm6
        (by rw [htx]; exact ⟨rfl, Or.inl ⟨rfl, rfl⟩⟩) (by omega) (join_call gt ct ls W hm0 hm6 hJ.small h.txt) hJ.pos hJ.small hJ.c32 hJ.c9 hJ.c10 hJ.c91 hs1.1 hs1.2
      refine hcl.mono ?_
      rintro e W' ⟨v, rfl, hPC⟩
      obtain ⟨pk, tb, tg, tc, ig, ic, rfl, hpk, htb, hPb, hTb, hps, htxr, hrow2, hin⟩ := hPC.ex
      refine ⟨_, rfl, Or.inr (Or.inl ⟨n, rfl, Nat.le_refl _, ig, ic, _, o0, ho0, ⟨hPC.mods.mono (fun k _ h => ?_), ⟨tb, tg, tc, _, _, htb, ?_, hTb, htxr, hps⟩, hin⟩, hrow2⟩)⟩
      · rcases h with h | h | h | h
        · exact Or.inl h
        · exact Or.inr h
        · rw [htx] at h; cases h
        · cases h
      · rw [Nat.sub_self]
        exact ⟨pk, _, _, rfl, hPb⟩
    · have hk : k = j := by omega
      subst hk
      by_cases hk0 : k = 0
      · subst hk0
        obtain ⟨hi0, _, ⟨_, v, hb⟩ | ⟨h1, _⟩ | ⟨h1, _⟩⟩ := hLQ.2 _ _ ho
        · obtain ⟨tb, tg, tc, a, b, htb, hQA, hTb, htxr, hps⟩ := hQ.ex
          rw [hb] at hrow
          refine (closeRoot bp g cap _ v (some ⟨ig, 0, none⟩) 1 ic none o.s o.e W hps rfl hrow hlk).mono ?_
          rintro e W' ⟨u', rfl, hm, rk, hrk, hR, hps'⟩
          have hsz := hQ.mods.size
          obtain ⟨tail, htl⟩ := id hps
          refine ⟨u', rfl, Or.inr (Or.inr ⟨rfl, rk, ig, ic, x, _, _, by omega, hR, ⟨hQ.mods.trans (hm.mono (fun _ _ h => Or.inl h)), ⟨tb, tg, tc, a, b, htb, ?_, hTb.keep hm (fun h => hTb.ne_of_type htl (by decide) h), ?_, hps'⟩, ?_⟩⟩)⟩
          · refine QAt.keep hm (fun b cs T hb hT h => ?_) _ _ hQA
            refine hb.ne_of_type htl ?_ h
            rcases hT with rfl | rfl | rfl <;> decide
          · exact ownsRow_keep htxr hm (fun k hk x => own_ne_ps htxr hps (by decide) (by rw [← x]; exact hk))
          · exact ownsRow_keep hQ.inn hm (fun k hk x => own_ne_ps hQ.inn hps (by decide) (by rw [← x]; exact hk))
        · omega
        · omega
      · obtain ⟨j, rfl⟩ : ∃ j, k = j + 1 := ⟨k - 1, by omega⟩
        obtain ⟨o', b', ho', hb'⟩ := hLQ.quote j (by omega)
        rw [ho] at ho'
        cases ho'
        obtain ⟨oj, hoj⟩ : ∃ o, L[j]? = some o := ⟨_, List.getElem?_eq_getElem (by omega)⟩
        refine (closeQuote bp g cap j (n - (j + 1)) p L (joinT ls) oj o b' ig ic x w W (by omega) hQ hoj (hLQ.2 _ _ hoj).1 ho hb' hrow).mono ?_
        rintro e W' ⟨u, rfl, ig', ic', x', hQ', hrow'⟩
        have e1 : n - (j + 1) + 1 = n - j := by omega
        rw [e1] at hQ'
        exact ⟨u, rfl, Or.inr (Or.inl ⟨j, rfl, by omega, ig', ic', x', oj, hoj, hQ', hrow'⟩)⟩
    · omega
end Go.Proofs.YtdnlfdppjfjncaaGreatDoor

/- parseBreak at a line feed between two signs that are no blanks. -/
namespace Go.Proofs.YtdnlfdppjfjncaaGreatDoor
open Go Go.RowKit Go.Proofs

set_option maxHeartbeats 4000000 in
theorem parseBreak_soft (a : Value) (s : ByteArray) (i : Nat) (w : World) (h0 : 0 < i) (hi : i + 1 < s.size) (hs : s.size ≤ 1000000) (h1 : isW (s[i - 1]'(by omega)) = false) (h2 : isW s[i + 1] = false) :
    Calls Tryz.prog 84 #[a, .string s, .int .i64 i] w fun e w' => ∃ b, e = .returned (.tuple #[.iface 193 (.pointer (some ⟨b, 0, none⟩)), .int .i64 i, .int .i64 (i + 1 : Nat), .bool true]) ∧
      Same w w' ∧ w.heap.size ≤ b ∧ Blk w' b #[] 194 := by
  obtain ⟨a1, a2⟩ := isW_no h1
  obtain ⟨b1, b2⟩ := isW_no h2
  clear h1 h2
  have w1 : IntKind.i64.wrap ((i : Int) + 1) = (i : Int) + 1 := IntWalk.i64_in _ (by omega)
  have w2 : IntKind.i64.wrap ((i : Int) - 1) = (i : Int) - 1 := IntWalk.i64_in _ (by omega)
  have w2' : IntKind.i64.wrap ((i : Int) - 2) = (i : Int) - 2 := IntWalk.i64_in _ (by omega)
  have w3 : (i : Int) + 1 < s.size := by omega
  have w4 : (0 : Int) ≤ (i : Int) + 1 := by omega
  have w5 : ((i : Int) + 1).toNat = i + 1 := by omega
  have w6 : ((i : Int) - 1).toNat = i - 1 := by omega
  have w7 : (i : Int) - 1 < s.size := by omega
  have w8 : (0 : Int) ≤ (i : Int) - 1 := by omega
  have w9 : (0 : Int) < (i : Int) := by omega
  go_enter Tryz.func84, Tryz.ntmps84
  go_wp2_with fail
  go_loopg [10] 0 (fun k v wr => v = .int .i64 i ∧ w = wr)
  case atStart => exact ⟨rfl, rfl⟩
  case round =>
    obtain ⟨rfl, rfl⟩ := hrel
    go_wp2_with fail
    go_loopg [11] 0 (fun k v wr => v = .int .i64 (i + 1 : Nat) ∧ w = wr)
    case atStart => exact ⟨by rw [Int.natCast_succ], rfl⟩
    case round =>
      obtain ⟨rfl, rfl⟩ := hrel
      by_cases hi2 : 2 ≤ i
      · have v1 : (2 : Int) ≤ (i : Int) := by omega
        go_wp2_with fail
        try rw [Exit.noGoto_ret]
        refine bodyPost_ret (v := .tuple #[.iface 193 (.pointer (some ⟨w.heap.size, 0, none⟩)), .int .i64 i, .int .i64 (i + 1 : Nat), .bool true]) (by simp [results, Tryz.results84, go_sem]) rfl ?_
        exact ⟨_, rfl, (Mods.refl _ w).alloc _, Nat.le_refl _, Blk.newAt _ _ rfl⟩
      · have v1 : ¬ ((2 : Int) ≤ (i : Int)) := by omega
        go_wp2_with fail
        try rw [Exit.noGoto_ret]
        refine bodyPost_ret (v := .tuple #[.iface 193 (.pointer (some ⟨w.heap.size, 0, none⟩)), .int .i64 i, .int .i64 (i + 1 : Nat), .bool true]) (by simp [results, Tryz.results84, go_sem]) rfl ?_
        exact ⟨_, rfl, (Mods.refl _ w).alloc _, Nat.le_refl _, Blk.newAt _ _ rfl⟩

theorem soft_call (s : ByteArray) (k : Nat) (h0 : 0 < k) (hk : k + 1 < s.size) (hs : s.size ≤ 1000000) (h1 : isW (s[k - 1]'(by omega)) = false) (h2 : isW s[k + 1] = false) :
    PieceCall s k 84 .soft k (k + 1) := by
  intro bp q W hq
  refine (parseBreak_soft _ s k W h0 hk hs h1 h2).mono ?_
  rintro e w' ⟨b, h1, h2, h3, h4⟩
  exact ⟨b, q.corner, h1, h2.mono (fun _ _ h => h.elim), hq.same h2, h3, h4⟩
end Go.Proofs.YtdnlfdppjfjncaaGreatDoor
