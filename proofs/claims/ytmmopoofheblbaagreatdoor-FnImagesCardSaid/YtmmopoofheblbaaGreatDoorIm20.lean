/- Some texts of one proof, put into one file: ParaG, WordL, StruckI, MergeQ, InM, InM2. -/
import Derived.Test.YtmmopoofheblbaaGreatDoorIm5
import Derived.Test.YtmmopoofheblbaaGreatDoorIm7
import Derived.Test.YtmmopoofheblbaaGreatDoorIm8
import Derived.Test.YtmmopoofheblbaaGreatDoorIm14
import Derived.Test.YtmmopoofheblbaaGreatDoorIm15
import Derived.Test.YtmmopoofheblbaaGreatDoorIm17
import Derived.Test.YtmmopoofheblbaaGreatDoorIm18
import Derived.Test.YtmmopoofheblbaaGreatDoorIm19
/- (*Parser).parse of one line, with options, whatever its inlines are. -/
namespace Go.Proofs.YtmmopoofheblbaaGreatDoor.G
open Go Go.RowKit Go.Proofs

/-- The parser's options. -/
structure Opts (o : Op) (w : World) (pp : Nat) : Prop where
  lt : pp < w.heap.size
  ex : ∃ cs, Blk w pp cs 100 ∧ (∀ k, k < 10 → k ≠ 1 → k ≠ 9 → cs[k]? = some (.bool false)) ∧ cs[1]? = some (.bool o.strike) ∧ cs[9]? = some (.bool o.quote)
theorem Opts.opt {o : Op} {w : World} {pp : Nat} (h : Opts o w pp) {p : PSt} (hp : p.parser = pp) (k : Nat) (hk : k < 10) (h1 : k ≠ 1) (h9 : k ≠ 9) : Opt w p k false := by
  obtain ⟨cs, a, b, _⟩ := h.ex
  exact ⟨cs, by rw [hp]; exact a, b k hk h1 h9⟩
theorem Opts.op {o : Op} {w : World} {pp : Nat} (h : Opts o w pp) {p : PSt} (hp : p.parser = pp) : OpAt w p o := by
  obtain ⟨cs, a, _, b, c⟩ := h.ex
  exact ⟨⟨cs, by rw [hp]; exact a, b⟩, ⟨cs, by rw [hp]; exact a, c⟩⟩
theorem Opts.same {o : Op} {w w' : World} {pp : Nat} (h : Opts o w pp) (hm : Same w w') : Opts o w' pp := by
  obtain ⟨cs, a, b⟩ := h.ex
  exact ⟨Nat.lt_of_lt_of_le h.lt hm.size, cs, hm.blk a, b⟩

/-- What inline gives of the text s, for any parse state: a row of inlines that prints out. -/
def InlOf (o : Op) (pp : Nat) (s : ByteArray) (out : List UInt8) : Prop :=
  ∀ bp W q, PsAt W bp q → Opts o W pp → q.parser = pp → pp ≠ bp →
    Calls Tryz.prog 83 #[.pointer (some ⟨bp, 0, none⟩), .string s] W fun e w' => ∃ g n cap c, e = .returned (.slice (some ⟨g, 0, none⟩) n cap) ∧ Mid W w' bp q s c ∧ Row out w' g n cap

theorem triesC_of {bp g cap : Nat} {p : PSt} {T : Nat} {v : Value} {text : ByteArray} {nl : Int} (h : ∀ c W, NoPara W bp g 0 cap { p with corner := c } T v → TriesNo W bp 0 text nl) : TriesNoC bp g cap p T v text nl := by
  intro c W hN f hf
  refine (h c W hN f hf W (Mods.refl _ _)).mono ?_
  rintro e w' ⟨h1, h2⟩
  exact ⟨h1, h2.mono (fun _ _ x => absurd x (fun x => x)), c, hN.at_.same h2⟩

/-- Closed; the inlines of i of the one text read. -/
def DG (w : World) (pp : Nat) (s : ByteArray) (out : List UInt8) (tx : Value) (i : Nat) (W : World) : Prop :=
  (i = 0 ∧ Same w W ∧ ∃ g cap c rk pk tb tg tc ig ic, tx = .slice (some ⟨tg, 0, none⟩) 1 tc ∧ w.heap.size ≤ tb ∧
    Blk W rk #[.int .i64 0, .int .i64 0, .slice (some ⟨ig, 0, none⟩) 1 ic, .map none] 111 ∧
    Blk W pk #[.int .i64 1, .int .i64 1, .pointer (some ⟨tb, 0, none⟩)] 138 ∧
    Blk W tb #[.int .i64 1, .int .i64 1, .slice none 0 0, .string s] 135 ∧
    PsAt W w.heap.size { p2 pp g cap with corner := c, texts := .slice (some ⟨tg, 0, none⟩) 1 tc, stack := .slice (some ⟨g, 0, none⟩) 0 cap, root := .pointer (some ⟨rk, 0, none⟩) } ∧
    W.ownsRow 0 131 1 (.slice (some ⟨tg, 0, none⟩) 1 tc) 1 [.pointer (some ⟨tb, 0, none⟩)] ∧
    W.ownsRow 0 91 1 (.slice (some ⟨ig, 0, none⟩) 1 ic) 1 [.iface 136 (.pointer (some ⟨pk, 0, none⟩))]) ∨
  (i = 1 ∧ ∃ rk q, Same w W ∧ Prints W 68 (.pointer (some ⟨rk, 0, none⟩)) (pOpen ++ out ++ pClose) ∧ PsAt W w.heap.size q ∧ q.root = .pointer (some ⟨rk, 0, none⟩) ∧ q.parser = pp)

theorem reads_one (o : Op) (pp : Nat) (s : ByteArray) (w : World) (hs : OneLn s) (hB : Begins s 0) (out : List UInt8) (hI : InlOf o pp s out) (hO : Opts o w pp) : Reads w w.heap.size pp [s] (R1 w pp s) (DG w pp s out) 1 where
  line := by
    rintro j W ⟨_, g, cap, v, _, ⟨rfl, hp, _⟩ | ⟨rfl, c, bb, tv, hp, _⟩⟩
    · exact ⟨hp.lineno, hp.fr 3, hp.lt⟩
    · exact ⟨hp.lineno, hp.fr 3, hp.lt⟩
  same := by
    rintro j W W' ⟨h1, g, cap, v, h2, ⟨h3, h4, h5⟩ | ⟨h3, c, bb, tv, h4, h5, h6, h7, h8⟩⟩ hm
    · exact ⟨h1.trans hm, g, cap, v, h2, Or.inl ⟨h3, h4.same hm, ownsRow_keep h5 hm (fun _ _ x => x)⟩⟩
    · exact ⟨h1.trans hm, g, cap, v, h2, Or.inr ⟨h3, c, bb, tv, h4.same hm, h5, ownsRow_keep h6 hm (fun _ _ x => x), hm.blk h7, ownsRow_keep h8 hm (fun _ _ x => x)⟩⟩
  first := fun W g cap v hS hg' hp hr => ⟨hS, g, cap, v, hg', Or.inl ⟨rfl, hp, hr⟩⟩
  step := by
    rintro j l nl W hl ⟨hsame, g, cap, v, hgw, ⟨rfl, hp, hown⟩ | ⟨rfl, _⟩⟩
    · have hls : s = l := Option.some.inj hl
      subst hls
      have hm : Mods (fun k => k = w.heap.size) W (W.setCell ⟨w.heap.size, 3, none⟩ (.int .i64 (((0 : Nat) : Int) + 1))) := (Mods.refl (fun k => k = w.heap.size) W).setCell (p := ⟨w.heap.size, 3, none⟩) (fun _ => rfl) _
      have hpY : PsAt (W.setCell ⟨w.heap.size, 3, none⟩ (.int .i64 (((0 : Nat) : Int) + 1))) w.heap.size { p0 pp with lineno := 1, stack := .slice (some ⟨g, 0, none⟩) 1 cap } := hp.set 3 _ _ rfl (by decide)
      have hownY := ownsRow_keep hown hm (fun k hk x => own_ne_ps hown hp (by decide) (by rw [← x]; exact hk))
      generalize (W.setCell ⟨w.heap.size, 3, none⟩ (.int .i64 (((0 : Nat) : Int) + 1)) : World) = Y at *
      have hpl := hO.lt
      have hws := hsame.size
      have hYs := hm.size
      have hsz := hs.small
      have hppb : pp ≠ w.heap.size := by omega
      have hOY : Opt Y { p0 pp with lineno := 1, stack := .slice (some ⟨g, 0, none⟩) 1 cap } 5 false := ((hO.same hsame).opt rfl 5 (by omega) (by omega) (by omega)).keep hm hppb
      have hNP : NoPara Y w.heap.size g 0 cap { p0 pp with lineno := 1, stack := .slice (some ⟨g, 0, none⟩) 1 cap } 172 (.pointer v) := ⟨hpY, rfl, by omega, (row_cells (n := 0) (l := []) hownY).1, by decide⟩
      refine (addLine_firstC w.heap.size g cap _ _ _ _ s nl Y hNP (by omega) (blankAt_id hs.pos hs.first) hOY hownY hppb (triesC_of (fun c V hV => triesNo_begins w.heap.size g 0 cap _ _ _ s 0 nl V hV rfl (by decide) (Nat.zero_le _) ⟨by omega, hs.no9⟩ hB))).mono ?_
      rintro e w2 ⟨rfl, c, hPN⟩
      rw [trimL_id hs.pos hs.first] at hPN
      obtain ⟨hm2, g2, cap2, bb, tv, a1, a2, a3, a4, a5, a6, a7⟩ := hPN
      have hg2 : w.heap.size ≤ g2 := by
        by_cases hlt : g2 < Y.heap.size
        · have hh : g = g2 := Option.some.inj (a6 hlt)
          omega
        · omega
      refine ⟨rfl, ?_, g2, cap2, v, hg2, Or.inr ⟨rfl, c, bb, tv, a1, by omega, a2, a3, a4⟩⟩
      exact (hsame.then hm (fun b hb x => by omega)).then hm2 (fun b hb x => by
        rcases x with x | x
        · omega
        · have hh : g = b := Option.some.inj x
          omega)
    · simp at hl
  close := by
    rintro W ⟨hsame, g, cap, v, hgw, ⟨h, _⟩ | ⟨_, c, bb, tv, hp, hbb, hown, hB, htv⟩⟩
    · exact absurd h (by simp)
    · refine (closed_twoC w.heap.size g cap bb pp c tv s v W hp hown hB htv hs).mono ?_
      rintro e w' ⟨rfl, hTw⟩
      have hws := hsame.size
      obtain ⟨rk, pk, tb, tg, tc, ig, ic, hrk, hpk, htb, hR, hPk, hT, hps, htx, hin⟩ := hTw.ex
      exact ⟨rfl, _, _, hps.texts, Or.inl ⟨rfl, hsame.then hTw.mods (fun b hb h => by omega), g, cap, c, rk, pk, tb, tg, tc, ig, ic, rfl, by omega, hR, hPk, hT, hps, htx, hin⟩⟩
  texts := by
    rintro a c i W hi (⟨rfl, hsame, g, cap, cc, rk, pk, tb, tg, tc, ig, ic, htx0, htb, hR, hPk, hT, hps, htx, hin⟩ | ⟨rfl, _⟩)
    · cases htx0
      have t0 : W.cell? ⟨tg, 0, none⟩ = some (.pointer (some ⟨tb, 0, none⟩)) := by
        obtain ⟨_, _, he, _, _, hc⟩ := ownsRow_form htx (by omega)
        cases he
        exact hc 0 _ rfl
      have hcap : 1 ≤ c := by
        rcases htx.2 with ⟨h, _⟩ | ⟨_, _, _, hv, _, _, hc, _⟩
        · cases h
        · cases hv; exact hc
      have hz := hs.small
      have hTne : tb ≠ w.heap.size := by
        obtain ⟨tail, htl⟩ := id hps
        exact hT.ne_of_type htl (by decide)
      refine ⟨tg, tb, s, rfl, hcap, t0, hT.cell 3, ?_⟩
      refine (hI w.heap.size W _ hps (hO.same hsame) rfl (by have := hO.lt; omega)).mono ?_
      rintro e w4 ⟨gl, n, lc, c', rfl, hMid, hRow⟩
      have hmw := hMid.mods
      obtain ⟨l9, e9, hp4⟩ := hMid.at_
      have hc1 := calm_ps hps
      have hT4 := hT.keep1 hmw hTne
      have hmt : Mods (fun b => b = tb) w4 (w4.setCell ⟨tb, 2, none⟩ (.slice (some ⟨gl, 0, none⟩) n lc)) := (Mods.refl (fun b => b = tb) w4).setCell (p := ⟨tb, 2, none⟩) (fun _ => rfl) _
      have hc2 := calm_text hT4
      have hT5 := hT4.set_same 2 (.slice (some ⟨gl, 0, none⟩) n lc)
      obtain ⟨h0, h6, ys, os, r1, r2, r3⟩ := row_stays out _ _ _ _ _ _ hRow hc2 hmt
      have hR5 := (hR.keep hmw (hc1.not hR (by decide) (by decide))).keep hmt (hc2.not (hR.keep hmw (hc1.not hR (by decide) (by decide))) (by decide) (by decide))
      have hPk5 := (hPk.keep hmw (hc1.not hPk (by decide) (by decide))).keep hmt (hc2.not (hPk.keep hmw (hc1.not hPk (by decide) (by decide))) (by decide) (by decide))
      have hin4 := ownsRow_keep hin hmw (fun k hk x => own_ne_ps hin hps (by decide) (by rw [← x]; exact hk))
      have hin5 := ownsRow_keep hin4 hmt (fun k hk x => own_ne hin4 hT4 (by decide) (by rw [← x]; exact hk))
      have hpr := Prints.doc hR5 hin5 (by omega) (by omega) (.cons (Prints.para hPk5 hT5 r1 h0 h6 r2.prints) .nil)
      rw [r3] at hpr
      have hfl : [pOpen ++ out ++ pClose].flatten = pOpen ++ out ++ pClose := by simp
      rw [hfl] at hpr
      refine ⟨_, _, _, rfl, ⟨_, hT4.cell 2, hT4.fr 2, hT4.lt⟩, Or.inr ⟨rfl, rk, _, ?_, hpr, hp4.set_other (a := ⟨tb, 2, none⟩) hTne _, rfl, rfl⟩⟩
      exact (hsame.then hmw (fun b hb h => by omega)).then hmt (fun b hb h => by omega)
    · exact absurd hi (Nat.lt_irrefl _)
  sameD := by
    rintro tx i W W' (⟨h1, h2, g, cap, cc, rk, pk, tb, tg, tc, ig, ic, a1, a2, a3, a4, a5, a6, a7, a8⟩ | ⟨h1, rk, q, h2, h2b, h3, h4, h5⟩) hm
    · exact Or.inl ⟨h1, h2.trans hm, g, cap, cc, rk, pk, tb, tg, tc, ig, ic, a1, a2, hm.blk a3, hm.blk a4, hm.blk a5, a6.same hm, ownsRow_keep a7 hm (fun _ _ x => x), ownsRow_keep a8 hm (fun _ _ x => x)⟩
    · exact Or.inr ⟨h1, rk, q, h2.trans hm, h2b.same hm, h3.same hm, h4, h5⟩
  fin := by
    rintro tx W (⟨h, _⟩ | ⟨_, rk, q, h2, h2b, h3, h4, h5⟩)
    · exact absurd h (by decide)
    · have hoff := (hO.same h2).opt (p := p0 pp) rfl 2 (by omega) (by omega) (by omega)
      exact ⟨⟨rk, by rw [← h4]; exact h3.root⟩, ⟨_, h3.corner⟩, hoff.cell, by rw [← h5]; exact h3.parser⟩

theorem parse_one (o : Op) (pp : Nat) (s : ByteArray) (w : World) (hs : OneLn s) (hB : Begins s 0) (out : List UInt8) (hI : InlOf o pp s out) (hO : Opts o w pp) :
    Calls Tryz.prog 68 #[.pointer (some ⟨pp, 0, none⟩), .string s] w fun e w' => ∃ rk c, e = .returned (.tuple #[.pointer (some ⟨rk, 0, none⟩), .bool c]) ∧ Same w w' ∧ Prints w' 68 (.pointer (some ⟨rk, 0, none⟩)) (pOpen ++ out ++ pClose) := by
  refine (parse_gen pp (fun j => if j = 0 then s else ⟨#[]⟩) [s] w (feed_one hs) (R1 w pp s) (DG w pp s out) 1 (by omega) (reads_one o pp s w hs hB out hI hO)).mono ?_
  rintro e w' ⟨rk, c, rfl, h1, tx, ⟨h, _⟩ | ⟨_, rk', q, h2, h2b, h3, h4, h5⟩⟩
  · exact absurd h (by decide)
  · have e1 := h1.symm.trans (h3.root.trans (by rw [h4]))
    cases e1
    exact ⟨rk, c, rfl, h2, h2b⟩

/-- The agg of options: strikethrough and smart quotes as said, all else off. -/
def optV (o : Op) : Value := .agg #[.bool o.strike, .bool false, .bool false, .bool false, .bool false, .bool false, .bool false, .bool o.quote, .bool false, .bool false]

theorem impl_parser_of (o : Op) (w : World) :
    Calls Tryz.prog 46 #[.agg #[.bool o.strike, .bool false, .bool false, .bool false, .bool false, .bool false, .bool false, .bool o.quote, .bool false, .bool false]] w fun e w' => ∃ pp, e = .returned (.pointer (some ⟨pp, 0, none⟩)) ∧ Same w w' ∧ w.heap.size ≤ pp ∧ Opts o w' pp := by
  go_enter Tryz.func46, Tryz.ntmps46
  go_wp2_with fail
  go_ret
  refine ⟨w.heap.size + 1, rfl, ((Mods.refl _ w).alloc _).alloc _, by omega, ⟨by simp, _, Blk.newAt (n := w.heap.size + 1) _ _ (by simp), fun k hk h1 h9 => ?_, rfl, rfl⟩⟩
  have : k = 0 ∨ k = 2 ∨ k = 3 ∨ k = 4 ∨ k = 5 ∨ k = 6 ∨ k = 7 ∨ k = 8 := by omega
  rcases this with rfl | rfl | rfl | rfl | rfl | rfl | rfl | rfl <;> rfl

theorem parser_Parse_one (o : Op) (pp : Nat) (s : ByteArray) (w : World) (hs : OneLn s) (hB : Begins s 0) (out : List UInt8) (hI : InlOf o pp s out) (hO : Opts o w pp) :
    Calls Tryz.prog 47 #[.pointer (some ⟨pp, 0, none⟩), .string s] w fun e w' => ∃ rk, e = .returned (.pointer (some ⟨rk, 0, none⟩)) ∧ Same w w' ∧ Prints w' 68 (.pointer (some ⟨rk, 0, none⟩)) (pOpen ++ out ++ pClose) := by
  go_enter Tryz.func47, Tryz.ntmps47
  go_wp2_with fail
  refine (parse_one o pp s w hs hB out hI hO).mono ?_
  rintro e w' ⟨rk, c, rfl, h1, h2⟩
  go_wp2_with fail
  go_ret
  exact ⟨rk, rfl, h1, h2⟩

set_option maxHeartbeats 4000000 in
theorem html_gen (o : Op) (s : ByteArray) (w : World) (out : List UInt8) (hl : out.length ≤ 10000000)
    (hparse : ∀ (pp : Nat) (w1 : World), Opts o w1 pp → Calls Tryz.prog 47 #[.pointer (some ⟨pp, 0, none⟩), .string s] w1 fun e w' => ∃ rk, e = .returned (.pointer (some ⟨rk, 0, none⟩)) ∧ Same w1 w' ∧ Prints w' 68 (.pointer (some ⟨rk, 0, none⟩)) out) :
    Calls Tryz.prog 16 #[.agg #[.bool o.strike, .bool false, .bool false, .bool false, .bool false, .bool false, .bool false, .bool o.quote, .bool false, .bool false], .string s] w fun e w' => e = .returned (.string ⟨out.toArray⟩) ∧ Same w w' := by
  have HP := Lib.hid hparse
  clear hparse
  go_enter Tryz.func16, Tryz.ntmps16
  go_wp2_with fail
  generalize hW : (w.alloc _ : World) = W
  have hm : Same w W := by subst hW; exact (Mods.refl _ w).alloc _
  clear hW
  refine (impl_parser_of o W).mono ?_
  rintro e w1 ⟨pp, rfl, hm1, _, hO⟩
  go_wp2_with fail
  refine (HP.out pp w1 hO).mono ?_
  rintro e w2 ⟨rk, rfl, hm2, hpr⟩
  go_wp2_with fail
  refine (toHTML_gen w2 _ _ out hpr hl).mono ?_
  rintro e w3 ⟨rfl, hm3⟩
  go_wp2_with fail
  go_ret
  exact ⟨rfl, ((hm.trans hm1).trans hm2).trans hm3⟩

theorem html_one (o : Op) (s : ByteArray) (w : World) (hs : OneLn s) (hB : Begins s 0) (out : List UInt8) (hl : out.length ≤ 1000000) (hI : ∀ pp, InlOf o pp s out) :
    Calls Tryz.prog 16 #[.agg #[.bool o.strike, .bool false, .bool false, .bool false, .bool false, .bool false, .bool false, .bool o.quote, .bool false, .bool false], .string s] w fun e w' => e = .returned (.string ⟨(pOpen ++ out ++ pClose).toArray⟩) ∧ Same w w' :=
  html_gen o s w (pOpen ++ out ++ pClose) (by
    have h1 : pOpen.length = 3 := rfl
    have h2 : pClose.length = 5 := rfl
    simp only [List.length_append]
    omega) (fun pp w1 hO => parser_Parse_one o pp s w1 hs hB out (hI pp) hO)
end Go.Proofs.YtmmopoofheblbaaGreatDoor.G

/- The laws' own function word; lines of words. -/
namespace Go.Proofs.YtmmopoofheblbaaGreatDoor.G
open Go Go.RowKit Go.Proofs

def abzA : ByteArray := ⟨#[97, 98, 122, 48, 49, 57]⟩
set_option maxRecDepth 100000 in
theorem abzA_all : ∀ c : UInt8, ¬ Lib.indexByte abzA.data.toList c < 0 → Wd c := by
  have h : ∀ n : Fin 256, ¬ Lib.indexByte abzA.data.toList (UInt8.ofNat n.1) < 0 → (48 ≤ n.1 ∧ n.1 ≤ 57) ∨ (65 ≤ n.1 ∧ n.1 ≤ 90) ∨ (97 ≤ n.1 ∧ n.1 ≤ 122) := by decide +kernel
  intro c hc
  have := h ⟨c.toNat, c.toNat_lt⟩ (by simpa using hc)
  exact this

def wordB (s : ByteArray) : Bool := if s.size = 0 then false else if 20 < s.size then false else onF s abzA 0
theorem wordB_word {s : ByteArray} (h : wordB s = true) : Word s := by
  unfold wordB at h
  split at h
  · cases h
  · split at h
    · cases h
    · refine ⟨by omega, by omega, fun c hc => ?_⟩
      obtain ⟨i, hi, rfl⟩ := List.mem_iff_getElem.1 hc
      exact abzA_all _ (onF_get s abzA _ 0 rfl h i hi (Nat.zero_le _))

set_option maxHeartbeats 4000000 in
theorem word_any (s : ByteArray) (w : World) (hs : s.size ≤ 2147483647) :
    Calls Tryz.prog 18 #[.string s] w fun e w' => e = .returned (.bool (wordB s)) ∧ w = w' := by
  by_cases h : 0 < s.size
  · have e0 : s.toList.isEmpty = false := bs_ne h
    have e0' : (!s.toList.isEmpty) = true := by rw [e0]; rfl
    by_cases h20 : 20 < s.size
    · have hf : wordB s = false := by unfold wordB; rw [if_neg (by omega), if_pos h20]
      have HF := Lib.hid hf
      clear hf
      go_enter Tryz.func18, Tryz.ntmps18
      go_wp2_with fail
      refine (only_big s _ 20 w h20 hs).mono ?_
      rintro e w' ⟨rfl, rfl⟩
      go_wp2_with fail
      go_ret
      exact ⟨by rw [HF.out]; rfl, rfl⟩
    · have hf : wordB s = onF s abzA 0 := by unfold wordB; rw [if_neg (by omega), if_neg h20]
      have HF := Lib.hid hf
      clear hf
      go_enter Tryz.func18, Tryz.ntmps18
      go_wp2_with fail
      refine (only_any s abzA 20 w (by omega) (by omega)).mono ?_
      rintro e w' ⟨rfl, rfl⟩
      go_wp2_with fail
      go_ret
      exact ⟨by rw [HF.out]; rfl, rfl⟩
  · have hz : s = ⟨#[]⟩ := by
      apply ByteArray.ext_getElem
      · show s.size = 0; omega
      · intro i h1 h2; omega
    subst hz
    have HF : Hid (wordB ⟨#[]⟩ = false) := Lib.hid (by decide)
    go_enter Tryz.func18, Tryz.ntmps18
    go_wp2_with fail
    go_ret
    exact ⟨by rw [HF.out]; rfl, rfl⟩

theorem wd_pr {c : UInt8} (h : Wd c) : Pr c := by unfold Wd at h; unfold Pr; omega
theorem wd_ne {c : UInt8} (h : Wd c) (k : UInt8) (hk : ¬ Wd k) : c ≠ k := fun e => hk (e ▸ h)
theorem wd_isW {c : UInt8} (h : Wd c) : isW c = false := isW_of (wd_pr h) (wd_ne h 32 (by unfold Wd; decide))

/-- A line that begins with a letter or a digit and holds no full stop and no parenthesis is a paragraph's. -/
theorem plain_wd {s : ByteArray} (h0 : 0 < s.size) (hw : Wd s[0]) (hn : ∀ j (h : j < s.size), s[j].toNat ≠ 46 ∧ s[j].toNat ≠ 41) : Plain s 0 := by
  have h32 : s[0] ≠ 32 := wd_ne hw 32 (by unfold Wd; decide)
  have hl : p3 s 0 = 0 := by
    unfold p3 lead
    rw [dif_pos h0, if_neg h32]
  have ha0 : at0 s (p3 s 0) = s[0] := by rw [hl]; exact at0_eq h0
  have hk : ∀ k : Nat, ¬ ((48 ≤ k ∧ k ≤ 57) ∨ (65 ≤ k ∧ k ≤ 90) ∨ (97 ≤ k ∧ k ≤ 122)) → ((s[0].toNat : Int) ≠ k) := by
    intro k hp e
    unfold Wd at hw
    omega
  constructor
  · rw [ha0]; exact hk 62 (by decide)
  · rw [ha0]; exact hk 35 (by decide)
  · rw [ha0]; exact hk 45 (by decide)
  · rw [ha0]; exact hk 95 (by decide)
  · rw [ha0]; exact hk 42 (by decide)
  · rw [ha0]; exact hk 60 (by decide)
  · rw [ha0]; exact hk 96 (by decide)
  · rw [ha0]; exact hk 126 (by decide)
  · rw [ha0]; exact h32
  · unfold ItemNo
    rw [ha0]
    by_cases hd : isDig s[0]
    · refine Or.inr ⟨hd, ?_⟩
      rw [hl]
      intro t _
      have key : ∀ k : UInt8, k.toNat = 46 ∨ k.toNat = 41 → (at0 s (0 + t)).toNat ≠ k.toNat := by
        intro k hk e
        have hg := at0_get (UInt8.toNat_inj.1 e) (by intro h; rw [h] at hk; revert hk; decide)
        have hi : 0 + t < s.size := by
          have := (List.getElem?_eq_some_iff.1 hg).1
          simpa using this
        rw [get_of hi] at hg
        have he := Option.some.inj hg
        have := hn (0 + t) hi
        rw [he] at this
        omega
      exact ⟨key 46 (Or.inl rfl), key 41 (Or.inr rfl)⟩
    · left
      intro k hkm
      simp only [List.mem_cons, List.not_mem_nil, or_false] at hkm
      have hd' : ¬ (48 ≤ (s[0].toNat : Int) ∧ (s[0].toNat : Int) ≤ 57) := hd
      rcases hkm with rfl | rfl | rfl | rfl | rfl | rfl | rfl | rfl | rfl | rfl | rfl | rfl | rfl
      · exact hk 45 (by decide)
      · exact hk 42 (by decide)
      · exact hk 43 (by decide)
      all_goals omega

/-- The signs of a line of words. -/
def Fine (c : UInt8) : Prop := Wd c ∨ c = 32 ∨ c = 126 ∨ c = 34 ∨ c = 39
theorem fine_ne {c : UInt8} (h : Fine c) (k : UInt8) (hk : ¬ Fine k) : c ≠ k := fun e => hk (e ▸ h)
theorem fine_line {s : ByteArray} (h0 : 0 < s.size) (hs : s.size ≤ 900000) (hf : Wd s[0]) (hl : Wd (s[s.size - 1]'(by omega))) (ha : ∀ c ∈ s.data.toList, Fine c) : OneLn s ∧ Begins s 0 := by
  have hj : ∀ j (h : j < s.size), Fine s[j] := fun j h => ha _ (List.mem_of_getElem? (get_of h))
  refine ⟨⟨h0, hs, wd_isW hf, wd_isW hl, fun i h => fine_ne (hj i h) 0 (by unfold Fine Wd; decide), fun i h => fine_ne (hj i h) 10 (by unfold Fine Wd; decide), fun i h => fine_ne (hj i h) 13 (by unfold Fine Wd; decide), wd_ne hf 91 (by unfold Wd; decide), fun i h => fine_ne (hj i h) 9 (by unfold Fine Wd; decide)⟩, Or.inl (plain_wd h0 hf (fun j h => ?_))⟩
  have x := hj j h
  constructor
  · intro e
    exact fine_ne x 46 (by unfold Fine Wd; decide) (UInt8.toNat_inj.1 e)
  · intro e
    exact fine_ne x 41 (by unfold Fine Wd; decide) (UInt8.toNat_inj.1 e)

/-- A text without signs that HTML escapes prints as it is. -/
theorem escB_wd {l : List UInt8} (h : ∀ c ∈ l, c ≠ 34 ∧ c ≠ 38 ∧ c ≠ 60 ∧ c ≠ 62) : l.flatMap escB = l := by
  induction l with
  | nil => rfl
  | cons c l ih =>
    obtain ⟨x1, x2, x3, x4⟩ := h c (by simp)
    rw [List.flatMap_cons, ih (fun d hd => h d (by simp [hd]))]
    simp [escB, x1, x2, x3, x4]
theorem escN_wd (s : ByteArray) (h : ∀ c ∈ s.data.toList, c ≠ 34 ∧ c ≠ 38 ∧ c ≠ 60 ∧ c ≠ 62) : escN s s.size = s.data.toList := by rw [escN_all, escB_wd h]
theorem wd_safe {c : UInt8} (h : Wd c) : c ≠ 34 ∧ c ≠ 38 ∧ c ≠ 60 ∧ c ≠ 62 := ⟨wd_ne h 34 (by unfold Wd; decide), wd_ne h 38 (by unfold Wd; decide), wd_ne h 60 (by unfold Wd; decide), wd_ne h 62 (by unfold Wd; decide)⟩
end Go.Proofs.YtmmopoofheblbaaGreatDoor.G

/- inline of a word between tildes among words. -/
namespace Go.Proofs.YtmmopoofheblbaaGreatDoor.G
open Go Go.RowKit Go.Proofs

theorem toPlain_T {T : Nat} (h1 : ∀ X v w, (Instr.typeAssert (.iface T v) X 224 true).run Tryz.prog w = .ok (.tuple #[.pointer none, .bool false]) w)
    (h2 : ∀ X v w, (Instr.typeAssert (.iface T v) X 266 true).run Tryz.prog w = .ok (.tuple #[.pointer none, .bool false]) w)
    (h3 : ∀ X v w, (Instr.typeAssert (.iface T v) X 228 true).run Tryz.prog w = .ok (.tuple #[.pointer none, .bool false]) w)
    (a : Option Addr) (w : World) : Calls Tryz.prog 136 #[.iface T (.pointer a)] w fun e w' => e = .returned (.pointer none) ∧ w = w' := by
  go_enter Tryz.func136, Tryz.ntmps136
  go_wp2_with fail
  try rw [Exit.noGoto_ret]
  go_ret
  exact ⟨rfl, rfl⟩
theorem toPlain_del (a : Option Addr) (w : World) : Calls Tryz.prog 136 #[.iface 205 (.pointer a)] w fun e w' => e = .returned (.pointer none) ∧ w = w' :=
  toPlain_T (fun X v w => as_ptr_no _ 224 221 (by kernel_rfl) (fun _ => by kernel_rfl) X v w (by decide)) (fun X v w => as_ptr_no _ 266 268 (by kernel_rfl) (fun _ => by kernel_rfl) X v w (by decide)) (fun X v w => as_ptr_no _ 228 231 (by kernel_rfl) (fun _ => by kernel_rfl) X v w (by decide)) a w
theorem quiet_plain : Quiet 224 :=
  ⟨fun X v w => as_ptr_no _ 228 231 (by kernel_rfl) (fun _ => by kernel_rfl) X v w (by decide), fun X v w => as_ptr_no _ 266 268 (by kernel_rfl) (fun _ => by kernel_rfl) X v w (by decide)⟩

/-- A list of inlines that prints out, with its kinds. -/
def RowK (out : List UInt8) (ks : List Bool) (w : World) (g n cap : Nat) : Prop :=
  0 < n ∧ n ≤ 1000000 ∧ ∃ ys os, w.ownsRow 0 157 1 (.slice (some ⟨g, 0, none⟩) n cap) n ys ∧ InsAt w ys os ∧ os.flatten = out ∧ Kinds ys ks
theorem rowK_stays (out : List UInt8) (ks : List Bool) : Stays (RowK out ks) := by
  rintro S W W' g n c ⟨h0, h6, ys, os, h1, h2, h3, h4⟩ hc hm
  exact ⟨h0, h6, ys, os, hc.row hm h0 h1, h2.keep hc hm, h3, h4⟩
theorem RowK.row {out : List UInt8} {ks : List Bool} {w : World} {g n cap : Nat} (h : RowK out ks w g n cap) : Row out w g n cap := by
  obtain ⟨h0, h6, ys, os, h1, h2, h3, _⟩ := h
  exact ⟨h0, h6, ys, os, h1, h2, h3⟩
theorem RowK.same {out : List UInt8} {ks : List Bool} {w w' : World} {g n cap : Nat} (h : RowK out ks w g n cap) (hm : Same w w') : RowK out ks w' g n cap := rowK_stays out ks (fun _ => False) w w' g n cap h (fun _ _ _ _ h => h.elim) hm

/-- mergePlain of a row whose plain texts stand apart. -/
theorem merge_row (out : List UInt8) (ks : List Bool) (hpp : ∀ i, ks[i]? = some true → ks[i + 1]? = some true → False) (W0 : World) (bp : Nat) (p : PSt) (s : ByteArray) :
    ∀ W g n cap c, Mid W0 W bp p s c → RowK out ks W g n cap →
      Calls Tryz.prog 118 #[.pointer (some ⟨bp, 0, none⟩), .slice (some ⟨g, 0, none⟩) n cap] W fun e W' => ∃ g2 n2 cap2, e = .returned (.slice (some ⟨g2, 0, none⟩) n2 cap2) ∧ Mid W0 W' bp p s c ∧ Row out W' g2 n2 cap2 := by
  intro W g n cap c hM hR
  obtain ⟨_, h6, ys, os, h1, _, _, h4⟩ := id hR
  refine (mergePlain_k _ g n cap ys ks W h1 h4 hpp h6).mono ?_
  rintro e w' ⟨rfl, hm⟩
  exact ⟨g, n, cap, rfl, hM.same hm, (hR.same hm).row⟩

theorem pcs5 {w : World} {xs : List Value} {p0 p1 p2 p3 p4 : Pc} (h : PcsAt w xs [p0, p1, p2, p3, p4]) :
    ∃ b0 b1 b2 b3 b4, xs = [.iface p0.ty (.pointer (some ⟨b0, 0, none⟩)), .iface p1.ty (.pointer (some ⟨b1, 0, none⟩)), .iface p2.ty (.pointer (some ⟨b2, 0, none⟩)), .iface p3.ty (.pointer (some ⟨b3, 0, none⟩)), .iface p4.ty (.pointer (some ⟨b4, 0, none⟩))] ∧
      Blk w b0 p0.cells p0.bty ∧ Blk w b1 p1.cells p1.bty ∧ Blk w b2 p2.cells p2.bty ∧ Blk w b3 p3.cells p3.bty ∧ Blk w b4 p4.cells p4.bty := by
  rcases xs with _ | ⟨x0, _ | ⟨x1, _ | ⟨x2, _ | ⟨x3, _ | ⟨x4, _ | ⟨x5, xs⟩⟩⟩⟩⟩⟩
  · exact h.elim
  · exact h.2.elim
  · exact h.2.2.elim
  · exact h.2.2.2.elim
  · exact h.2.2.2.2.elim
  · obtain ⟨⟨_, b0, rfl, k0⟩, ⟨_, b1, rfl, k1⟩, ⟨_, b2, rfl, k2⟩, ⟨_, b3, rfl, k3⟩, ⟨_, b4, rfl, k4⟩, _⟩ := h
    exact ⟨b0, b1, b2, b3, b4, rfl, k0, k1, k2, k3, k4⟩
  · exact h.2.2.2.2.2.elim

def struckOut (a b c : ByteArray) : List UInt8 := escN a a.size ++ ((delO ++ escN b b.size ++ delC) ++ escN c c.size)

theorem emph_row_struck (ta tb tc tt : ByteArray) (htt : tt = ⟨#[126]⟩ ∨ tt = ⟨#[126, 126]⟩) (ha : ta.size ≤ 1000000) (hb : tb.size ≤ 1000000) (hc : tc.size ≤ 1000000) (W0 : World) (bp : Nat) (q : PSt) (s : ByteArray) :
    ∀ W g n cap xs c, Held W0 W bp { q with corner := c } s s.size n (.slice (some ⟨g, 0, none⟩) n cap) xs [.plain ta, mark tt true false tt.size, .plain tb, mark tt false true tt.size, .plain tc] → 0 < n → n ≤ s.size + 1 →
      Calls Tryz.prog 117 #[.pointer (some ⟨bp, 0, none⟩), .slice (some ⟨g, 0, none⟩) 0 cap, .slice (some ⟨g, 0, none⟩) n cap] W fun e W' => ∃ g2 n2 cap2, e = .returned (.slice (some ⟨g2, 0, none⟩) n2 cap2) ∧ Mid W0 W' bp q s c ∧ RowK (struckOut ta tb tc) [true, false, true] W' g2 n2 cap2 := by
  intro W g n cap xs c h _ _
  obtain ⟨b0, b1, b2, b3, b4, rfl, k0, k1, k2, k3, k4⟩ := pcs5 h.pcs
  have k0 : Blk W b0 #[.string ta] 221 := k0
  have k2 : Blk W b2 #[.string tb] 221 := k2
  have k4 : Blk W b4 #[.string tc] 221 := k4
  have hn5 : n = 5 := by have := h.row.1; simp at this; omega
  subst hn5
  have hgf := h.fresh g rfl
  have n1 := h.new (.iface (mark tt true false tt.size).ty (.pointer (some ⟨b1, 0, none⟩))) (by simp) _ b1 rfl
  have n3 := h.new (.iface (mark tt false true tt.size).ty (.pointer (some ⟨b3, 0, none⟩))) (by simp) _ b3 rfl
  obtain ⟨_, _, he, ⟨cur, hcur⟩, _, _⟩ := ownsRow_form h.row (by omega)
  cases he
  have hgw := hcur.lt
  have hm13 : b1 ≠ b3 := by
    intro e
    subst e
    have x1 := k1.cell 1
    rw [k3.cell 1] at x1
    have x2 : (some (Value.bool false) : Option Value) = some (Value.bool true) := x1
    cases x2
  have hne : ∀ {b : Nat} {cs : Array Value} {T : Nat}, Blk W b cs T → T ≠ 157 → T ≠ 268 → ¬ (b = g ∨ b = b1 ∨ b = b3) := by
    rintro b cs T hb h1 h2 (e | e | e)
    · exact hb.ne_of_type hcur h1 e
    · exact hb.ne_of_type k1 h2 e
    · exact hb.ne_of_type k3 h2 e
  refine (emph_struck _ g cap b1 b3 224 224 224 (.pointer (some ⟨b0, 0, none⟩)) (.pointer (some ⟨b2, 0, none⟩)) (.pointer (some ⟨b4, 0, none⟩)) tt W htt h.row quiet_plain quiet_plain quiet_plain k1 k3 hm13 hgw).mono ?_
  rintro e W' ⟨rfl, hSt⟩
  rcases hSt with ⟨h9, _⟩ | ⟨h9, _⟩ | ⟨h9, _⟩ | ⟨h9, _⟩ | ⟨_, sa, db, ig, ic, hdi, hE, hdb, hig⟩
  · exact absurd h9 (by decide)
  · exact absurd h9 (by decide)
  · exact absurd h9 (by decide)
  · exact absurd h9 (by decide)
  have r4 := ownsRow_pop (xs := [.iface 224 (.pointer (some ⟨b0, 0, none⟩)), .iface 205 (.pointer (some ⟨db, 0, none⟩)), .iface 224 (.pointer (some ⟨b4, 0, none⟩)), .iface 266 (.pointer (some ⟨b3, 0, none⟩))]) (ys := [_]) hE.row rfl
  have r3 := ownsRow_pop (xs := [.iface 224 (.pointer (some ⟨b0, 0, none⟩)), .iface 205 (.pointer (some ⟨db, 0, none⟩)), .iface 224 (.pointer (some ⟨b4, 0, none⟩))]) (ys := [_]) r4 rfl
  refine ⟨g, 3, cap, rfl, ⟨h.mods.then hE.mods (fun b hb x => absurd hb (by rcases x with e | e | e <;> omega)), ?_⟩, by omega, by omega, _, [escN ta ta.size, delO ++ [escN tb tb.size].flatten ++ delC, escN tc tc.size], r3, ?_, ?_, ⟨rfl, ?_⟩⟩
  · obtain ⟨tail, htl⟩ := id h.at_
    exact ⟨_, _, h.at_.keep hE.mods (hne htl (by decide) (by decide))⟩
  · exact .plain (k0.keep hE.mods (hne k0 (by decide) (by decide))) ha (.del hdb (Or.inr rfl) hig (by omega) (by omega) (.plain (k2.keep hE.mods (hne k2 (by decide) (by decide))) hb .nil) (.plain (k4.keep hE.mods (hne k4 (by decide) (by decide))) hc .nil))
  · simp [struckOut]
  · intro i x hx
    rcases i with _ | _ | _ | i
    · exact ⟨b0, _, (Option.some.inj hx).symm, Or.inl ⟨rfl, rfl⟩⟩
    · exact ⟨db, _, (Option.some.inj hx).symm, Or.inr ⟨rfl, toPlain_del⟩⟩
    · exact ⟨b4, _, (Option.some.inj hx).symm, Or.inl ⟨rfl, rfl⟩⟩
    · simp at hx

theorem three_line {x m z : List UInt8} (hx0 : 0 < x.length) (hz0 : 0 < z.length) (hx : ∀ c ∈ x, Wd c) (hz : ∀ c ∈ z, Wd c) (hm : ∀ c ∈ m, Fine c) (hl : x.length + (m.length + z.length) ≤ 900000) :
    OneLn (strL (x ++ (m ++ z))) ∧ Begins (strL (x ++ (m ++ z))) 0 := by
  generalize hs : strL (x ++ (m ++ z)) = s
  have hlist : s.data.toList = x ++ (m ++ z) := by rw [← hs]; simp [strL]
  have hsz : s.size = x.length + (m.length + z.length) := by
    have e : s.size = s.data.toList.length := rfl
    rw [e, hlist, List.length_append, List.length_append]
  have f0 : FromL s 0 (x ++ (m ++ z)) := by unfold FromL; rw [List.drop_zero, hlist]
  have f2 : FromL s (x.length + m.length) (z ++ []) := by
    rw [List.append_nil]
    have := (f0.app).app
    rw [Nat.zero_add] at this
    exact this
  refine fine_line (by omega) (by omega) (hx _ (f0.mem 0 (by omega) (Nat.le_refl _) (by omega))) (hz _ (f2.mem (s.size - 1) (by omega) (by omega) (by omega))) (fun c hc => ?_)
  rw [hlist] at hc
  rcases List.mem_append.1 hc with h | h
  · exact Or.inl (hx c h)
  · rcases List.mem_append.1 h with h | h
    · exact hm c h
    · exact Or.inl (hz c h)

theorem struck_parts (a b c : ByteArray) (n : Nat) : struckT a b c n = strL (a.data.toList ++ ((32 :: (runL n ++ (b.data.toList ++ (runL n ++ [32])))) ++ c.data.toList)) := by
  unfold struckT struckL
  simp
theorem struck_size (a b c : ByteArray) (n : Nat) : (struckT a b c n).size = a.size + b.size + c.size + 2 * n + 2 := by
  have e1 : a.data.toList.length = a.size := rfl
  have e2 : b.data.toList.length = b.size := rfl
  have e3 : c.data.toList.length = c.size := rfl
  rw [struckT, strL_size, struckL]
  simp only [List.length_append, List.length_cons, runL, List.length_replicate, e1, e2, e3]
  omega
theorem struck_mid (b : ByteArray) (n : Nat) (hb : Word b) : ∀ c ∈ (32 :: (runL n ++ (b.data.toList ++ (runL n ++ [32])))), Fine c := by
  have hr : ∀ c ∈ runL n, Fine c := fun c hc => Or.inr (Or.inr (Or.inl (List.mem_replicate.1 hc).2))
  intro c hc
  rcases List.mem_cons.1 hc with rfl | h
  · exact Or.inr (Or.inl rfl)
  · rcases List.mem_append.1 h with h | h
    · exact hr c h
    · rcases List.mem_append.1 h with h | h
      · exact Or.inl (hb.all c h)
      · rcases List.mem_append.1 h with h | h
        · exact hr c h
        · exact Or.inr (Or.inl (List.mem_singleton.1 h))
theorem struck_line (a b c : ByteArray) (n : Nat) (ha : Word a) (hb : Word b) (hc : Word c) (hn : n = 1 ∨ n = 2) : OneLn (struckT a b c n) ∧ Begins (struckT a b c n) 0 := by
  rw [struck_parts]
  have h1 := ha.pos
  have h2 := ha.le
  have h3 := hb.le
  have h4 := hc.pos
  have h5 := hc.le
  refine three_line h1 h4 ha.all hc.all (struck_mid b n hb) ?_
  have e1 : a.data.toList.length = a.size := rfl
  have e2 : b.data.toList.length = b.size := rfl
  have e3 : c.data.toList.length = c.size := rfl
  simp only [List.length_append, List.length_cons, runL, List.length_replicate, e1, e2, e3, List.length_nil]
  omega

theorem sz_snoc (a : ByteArray) (x : UInt8) : (strL (a.data.toList ++ [x])).size = a.size + 1 := by rw [strL_size, List.length_append]; rfl
theorem sz_cons (a : ByteArray) (x : UInt8) : (strL (x :: a.data.toList)).size = a.size + 1 := by rw [strL_size, List.length_cons]; rfl

theorem inl_struck (a b c : ByteArray) (n : Nat) (pp : Nat) (ha : Word a) (hb : Word b) (hc : Word c) (hn : n = 1 ∨ n = 2) :
    InlOf ⟨true, false⟩ pp (struckT a b c n) (struckOut (strL (a.data.toList ++ [32])) b (strL (32 :: c.data.toList))) := by
  intro bp W q hq hO hpp hne
  have hL := (struck_line a b c n ha hb hc hn).1
  have h2 := ha.le
  have h3 := hb.le
  have h5 := hc.le
  have hsz := struck_size a b c n
  have z1 := sz_snoc a 32
  have z2 := sz_cons c 32
  have htt : strL (runL n) = ⟨#[126]⟩ ∨ strL (runL n) = ⟨#[126, 126]⟩ := by
    rcases hn with rfl | rfl
    · exact Or.inl rfl
    · exact Or.inr rfl
  have hts : (strL (runL n)).size = n := by rw [strL_size]; simp [runL]
  have hP := struck_plan a b c n ⟨true, false⟩ rfl ha hb hc hn
  have hEm := emph_row_struck (strL (a.data.toList ++ [32])) b (strL (32 :: c.data.toList)) (strL (runL n)) htt (by omega) (by omega) (by omega) W bp q (struckT a b c n)
  rw [hts] at hEm
  exact inline_gen ⟨true, false⟩ bp q (struckT a b c n) W hq hL.small hL.pos _ hP (hO.opt hpp 3 (by omega) (by decide) (by decide)) (hO.op hpp) (by rw [hpp]; exact hne)
    (trimSpaceTab_id _ W (by have := hL.small; omega) hL.pos hL.first hL.last) _ _ (rowK_stays _ _) (row_stays _) hEm
    (merge_row _ [true, false, true] (fun i h1 h2 => by rcases i with _ | _ | _ | i <;> simp at h1 h2) W bp q _)

/-- A text of idle signs is one plain text. -/
theorem plan_idle {o : Op} {s : ByteArray} (h0 : 0 < s.size) (hd : ∀ j (h : j < s.size), Idle o s[j]) : Plan o s 0 0 [.plain s] := by
  have hf := Plan.fin (o := o) (s := s) 0
  rw [if_pos h0, ext_all] at hf
  exact plan_skip s.size 0 (by omega) (fun j hj _ _ => hd j hj) (by rw [Nat.zero_add]; exact hf)

theorem inl_idle (o : Op) (s : ByteArray) (pp : Nat) (hL : OneLn s) (hd : ∀ j (h : j < s.size), Idle o s[j]) : InlOf o pp s (escN s s.size) := by
  intro bp W q hq hO hpp hne
  have hsm := hL.small
  refine inline_gen o bp q s W hq hL.small hL.pos _ (plan_idle hL.pos hd) (hO.opt hpp 3 (by omega) (by decide) (by decide)) (hO.op hpp) (by rw [hpp]; exact hne)
    (trimSpaceTab_id _ W (by omega) hL.pos hL.first hL.last) (RowK (escN s s.size) [true]) _ (rowK_stays _ _) (row_stays _) ?_
    (merge_row _ [true] (fun i h1 h2 => by rcases i with _ | i <;> simp at h1 h2) W bp q _)
  intro W1 g n cap xs c h _ _
  obtain ⟨x, rfl, b, hx, hb⟩ : ∃ x, xs = [x] ∧ ∃ b, x = .iface 224 (.pointer (some ⟨b, 0, none⟩)) ∧ Blk W1 b #[.string s] 221 := by
    have hp := h.pcs
    rcases xs with _ | ⟨x, _ | ⟨y, xs⟩⟩
    · exact hp.elim
    · obtain ⟨⟨_, b, hx, hb⟩, _⟩ := hp
      exact ⟨x, rfl, b, hx, hb⟩
    · exact hp.2.elim
  have hn1 : n = 1 := by have := h.row.1; simp at this; omega
  subst hn1
  refine (emph_id _ g 1 cap [x] [Go.Proofs.YtmmopoofheblbaaGreatDoor.Pc.plain s] W1 h.row ⟨⟨b, hx, hb⟩, trivial⟩ (by omega)).mono ?_
  rintro e W' ⟨rfl, hm⟩
  refine ⟨g, 1, cap, rfl, ⟨h.mods.then hm (fun b hb x => absurd x (fun x => x)), _, _, h.at_.same hm⟩, by omega, by omega, [x], [escN s s.size], ownsRow_keep h.row hm (fun _ _ x => x), ?_, by simp, ⟨rfl, ?_⟩⟩
  · subst hx
    exact .plain (hm.blk hb) (by omega) .nil
  · intro i y hy
    rcases i with _ | i
    · exact ⟨b, _, (Option.some.inj hy).symm.trans hx, Or.inl ⟨rfl, rfl⟩⟩
    · simp at hy
end Go.Proofs.YtmmopoofheblbaaGreatDoor.G

/- mergePlain over a row all of whose inlines are plain: one text. -/
namespace Go.Proofs.YtmmopoofheblbaaGreatDoor.G
open Go Go.RowKit Go.Proofs

theorem row_take {w : World} {e n g cap : Nat} {xs : List Value} (h : w.ownsRow 0 e 1 (.slice (some ⟨g, 0, none⟩) n cap) n xs) (k : Nat) (hk : k ≤ n) : w.ownsRow 0 e 1 (.slice (some ⟨g, 0, none⟩) k cap) k (xs.take k) := by
  obtain ⟨h1, h2⟩ := h
  refine ⟨by rw [List.length_take]; omega, .inr ?_⟩
  rcases h2 with ⟨h2, _⟩ | ⟨g', cap', cur, hv, hb, hg, hc, hm, hs, ht⟩
  · cases h2
  · cases hv
    refine ⟨g, cap, cur, rfl, hb, hg, by omega, hm, hs, ?_⟩
    rw [← ht, List.take_take, Nat.mul_one, Nat.mul_one, Nat.min_eq_left hk]
theorem set_take1 (xs : List Value) (x : Value) (h : 0 < xs.length) : (xs.set 0 x).take 1 = [x] := by
  cases xs with
  | nil => simp at h
  | cons y r => simp

/-- The texts of a row of plain inlines. -/
def TextsAt (w : World) (xs : List Value) (ts : List ByteArray) : Prop := xs.length = ts.length ∧ ∀ (i : Nat) (t : ByteArray), ts[i]? = some t → ∃ T b, xs[i]? = some (.iface T (.pointer (some ⟨b, 0, none⟩))) ∧ (T = 224 ∨ T = 266) ∧ (Blk w b #[.string t] 221 ∨ ∃ c1 c2 c3 c4, Blk w b #[.string t, c1, c2, c3, c4] 268)
theorem TextsAt.same {w w' : World} {xs : List Value} {ts : List ByteArray} (h : TextsAt w xs ts) (hm : Same w w') : TextsAt w' xs ts := by
  refine ⟨h.1, fun i t ht => ?_⟩
  obtain ⟨T, b, h1, hT, h2⟩ := h.2 i t ht
  refine ⟨T, b, h1, hT, ?_⟩
  rcases h2 with hb | ⟨c1, c2, c3, c4, hb⟩
  · exact Or.inl (hm.blk hb)
  · exact Or.inr ⟨c1, c2, c3, c4, hm.blk hb⟩
theorem TextsAt.cell {w : World} {xs : List Value} {ts : List ByteArray} (h : TextsAt w xs ts) {g n cap : Nat} (hown : w.ownsRow 0 157 1 (.slice (some ⟨g, 0, none⟩) n cap) n xs) (i : Nat) (hi : i < n) :
    ∃ T b t, ts[i]? = some t ∧ w.cell? ⟨g, i, none⟩ = some (.iface T (.pointer (some ⟨b, 0, none⟩))) ∧ w.cell? ⟨b, 0, none⟩ = some (.string t) ∧ (T = 224 ∨ T = 266) := by
  have hl : xs.length = n := by have := hown.1; omega
  obtain ⟨_, _, he, _, _, hc⟩ := ownsRow_form hown (by omega)
  cases he
  obtain ⟨t, ht⟩ : ∃ t, ts[i]? = some t := ⟨_, List.getElem?_eq_getElem (by have := h.1; omega)⟩
  obtain ⟨T, b, h1, hT, h2⟩ := h.2 i t ht
  refine ⟨T, b, t, ht, hc i _ h1, ?_, hT⟩
  rcases h2 with hb | ⟨c1, c2, c3, c4, hb⟩
  · exact hb.cell 0
  · exact hb.cell 0

theorem toPlain_emph (b : Nat) (w : World) : Calls Tryz.prog 136 #[.iface 266 (.pointer (some ⟨b, 0, none⟩))] w fun e w' => e = .returned (.pointer (some ⟨b, 0, none⟩)) ∧ w = w' := by
  have h1 := fun X v w => as_ptr_no 266 224 221 (by kernel_rfl) (fun _ => by kernel_rfl) X v w (by decide)
  have h2 := as_mark_yes
  go_enter Tryz.func136, Tryz.ntmps136
  go_wp2_with fail
  try rw [Exit.noGoto_ret]
  go_ret
  exact ⟨rfl, rfl⟩
theorem toPlain_yes (T b : Nat) (w : World) (h : T = 224 ∨ T = 266) : Calls Tryz.prog 136 #[.iface T (.pointer (some ⟨b, 0, none⟩))] w fun e w' => e = .returned (.pointer (some ⟨b, 0, none⟩)) ∧ w = w' := by
  rcases h with rfl | rfl
  · exact toPlain_plain _ w
  · exact toPlain_emph b w

def catT (ts : List ByteArray) : ByteArray := strL (ts.flatMap (·.data.toList))
theorem catT_join (ts : List ByteArray) : Lib.join (ts.map (·.data.toList)) [] = (catT ts).data.toList := by
  have h1 : ∀ l : List (List UInt8), Lib.join l [] = l.flatten := by
    intro l
    cases l with
    | nil => rfl
    | cons x r => rw [Lib.join_cons]; simp [Lib.joinTail]
  rw [h1]
  simp [catT, strL, List.flatMap]

set_option maxRecDepth 100000 in
set_option maxHeartbeats 4000000 in
theorem mergePlain1_many (g n cap : Nat) (xs : List Value) (ts : List ByteArray) (w : World) (hown : w.ownsRow 0 157 1 (.slice (some ⟨g, 0, none⟩) n cap) n xs) (hT : TextsAt w xs ts) (hn2 : 2 ≤ n) (hn : n ≤ 1000) (hts : (catT ts).size ≤ 1000000) :
    Calls Tryz.prog 161 #[.slice (some ⟨g, 0, none⟩) n cap] w fun e w' => ∃ b, e = .returned (.pointer (some ⟨b, 0, none⟩)) ∧ w.heap.size ≤ b ∧ Blk w' b #[.string (catT ts)] 221 ∧ Same w w' := by
  have hl : ts.length = n := by have := hown.1; have := hT.1; omega
  have hcap : n ≤ cap := by
    rcases hown.2 with ⟨h, _⟩ | ⟨_, _, _, h, _, _, hc, _⟩
    · cases h
    · cases h; exact hc
  have HT := Lib.hid hT
  have HO := Lib.hid hown
  have HL := Lib.hid hl
  have HS := Lib.hid hts
  clear hT hown hl hts
  have w0 : ((n : Int) == 1) = false := beq_eq_false_iff_ne.2 (by omega)
  have w0' : ¬ n = 1 := by omega
  go_enter Tryz.func161, Tryz.ntmps161
  go_wp2_with fail
  clear w0 w0'
  go_loopg [3, 5, 15] n (fun k v3 v5 v15 wr => ∃ i : Nat, v15 = .int .i64 i ∧ k = n - i ∧ i ≤ n ∧ (i = 0 → v5 = undef) ∧ Same w wr ∧ wr.ownsRow 0 9 1 v3 i ((ts.take i).map .string) ∧ (∀ g2, v3.ownBlock = some g2 → w.heap.size ≤ g2))
  case atStart => exact ⟨0, rfl, rfl, Nat.zero_le _, fun _ => rfl, Mods.refl _ _, ⟨rfl, Or.inl ⟨rfl, rfl⟩⟩, fun _ h => by cases h⟩
  case round =>
    obtain ⟨i, rfl, rfl, hi, h5, hm, hrow, hfr⟩ := hrel
    by_cases hlt : i < n
    · have w1 : (i : Int) < n := by omega
      have w2 : (0 : Int) ≤ i := by omega
      have w3 : IntKind.i64.wrap ((i : Int) + 1) = (i : Int) + 1 := IntWalk.i64_in _ (by omega)
      obtain ⟨T, b, t, ht, c1, c2, hTT⟩ := (HT.out.same hm).cell (ownsRow_keep HO.out hm (fun _ _ x => x)) i hlt
      have HM := Lib.hid hm
      have HR := Lib.hid hrow
      have HF := Lib.hid hfr
      have Ht := Lib.hid ht
      have HTT := Lib.hid hTT
      clear hm hrow hfr ht hTT h5
      go_wp2_with fail
      refine (toPlain_yes T b wr HTT.out).mono ?_
      rintro e w' ⟨rfl, rfl⟩
      go_wp2_with (at_builtin; refine ap_str rfl (.tmp 19) (.tmp 25) rfl _ i _ rfl (ownsRow_keep HR.out ((Mods.refl (fun _ => False) wr).alloc _) (fun _ _ x => x)) wr.heap.size 1 t rfl ((Blk.newAt _ _ rfl).cell 0) (by omega) ?_)
      intro g2 c2 w2 hrow2 hgrow2 hloc2
      have hm3 : Same w w2 := (HM.out.trans ((Mods.refl (fun _ => False) wr).alloc _)).then (grown_mods hgrow2) (fun b hb x => absurd (HF.out b x) (by omega))
      go_wp2_with fail
      go_roundg (n - (i + 1))
      case measure => omega
      case rel =>
        refine ⟨i + 1, by simp, rfl, by omega, fun h => absurd h (by omega), hm3, ?_, ?_⟩
        · rw [List.take_add_one, Ht.out]
          simpa using hrow2
        · intro g3 hg3
          cases hg3
          rcases hloc2 with h | h
          · exact HF.out _ h
          · have := HM.out.size
            have h9 : g2 = wr.heap.size + 1 := by simpa using h
            show w.heap.size ≤ g2
            omega
    · have hin : i = n := by omega
      subst hin
      have w1 : ¬ ((i : Int) < i) := by omega
      rw [List.take_of_length_le (by have := HL.out; omega)] at hrow
      obtain ⟨g3, c3, rfl, ⟨cur3, hcur3⟩, _, hc3⟩ := ownsRow_form hrow (by omega)
      have hcap3 : i ≤ c3 := by
        rcases hrow.2 with ⟨h, _⟩ | ⟨_, _, _, h, _, _, hc, _⟩
        · cases h
        · cases h; exact hc
      have hJ : Calls Tryz.prog 209 #[.slice (some ⟨g3, 0, none⟩) i c3, .string ⟨#[]⟩] wr fun e W' => e = .returned (.string (catT ts)) ∧ Same wr W' := by
        have hl := HL.out
        subst hl
        refine (Tryz.strings_Join g3 0 c3 ts ⟨#[]⟩ wr ?_ hcur3.lt (by omega) hcap3 ?_).mono ?_
        · intro j x hx
          have := hc3 j (.string x) (by rw [List.getElem?_map, hx]; rfl)
          rw [Nat.zero_add]
          exact this
        · have e1 : (Lib.join (ts.map (·.data.toList)) (⟨#[]⟩ : ByteArray).data.toList).length = (catT ts).size := by
            show (Lib.join (ts.map (·.data.toList)) []).length = _
            rw [catT_join]
            rfl
          rw [e1]
          have := HS.out
          omega
        · rintro e w' ⟨h1, h2⟩
          refine ⟨?_, Below.mods h2 (fun k hk hk2 => absurd hk (by omega))⟩
          rw [h1]
          refine congrArg (fun b => Ending.returned (.string b)) ?_
          apply ByteArray.ext
          apply Array.toList_inj.1
          have : (Lib.join (ts.map (·.data.toList)) (⟨#[]⟩ : ByteArray).data.toList) = (catT ts).data.toList := catT_join ts
          simpa using this
      have HM := Lib.hid hm
      have HJ := Lib.hid hJ
      clear hm hJ hrow hc3 hcur3 hfr h5
      go_wp2_with fail
      refine HJ.out.mono ?_
      rintro e w2 ⟨rfl, hm2⟩
      go_wp2_with fail
      go_ret
      exact ⟨w2.heap.size, rfl, Nat.le_trans HM.out.size hm2.size, Blk.newAt _ _ rfl, (HM.out.trans hm2).alloc _⟩

set_option maxRecDepth 100000 in
set_option maxHeartbeats 4000000 in
theorem mergePlain_all (q : Value) (g n cap : Nat) (xs : List Value) (ts : List ByteArray) (w : World) (hown : w.ownsRow 0 157 1 (.slice (some ⟨g, 0, none⟩) n cap) n xs) (hT : TextsAt w xs ts) (hn2 : 2 ≤ n) (hn : n ≤ 1000) (hts : (catT ts).size ≤ 1000000) :
    Calls Tryz.prog 118 #[q, .slice (some ⟨g, 0, none⟩) n cap] w fun e w' => e = .returned (.slice (some ⟨g, 0, none⟩) 1 cap) ∧ Mods (fun k => k = g) w w' ∧ ∃ b, w.heap.size ≤ b ∧ Blk w' b #[.string (catT ts)] 221 ∧ w'.ownsRow 0 157 1 (.slice (some ⟨g, 0, none⟩) 1 cap) 1 [.iface 224 (.pointer (some ⟨b, 0, none⟩))] := by
  have hcap : n ≤ cap := by
    rcases hown.2 with ⟨h, _⟩ | ⟨_, _, _, h, _, _, hc, _⟩
    · cases h
    · cases h; exact hc
  have c1 : (0 : Int) ≤ cap := by omega
  have HT := Lib.hid hT
  have HO := Lib.hid hown
  clear hT hown
  go_enter Tryz.func118, Tryz.ntmps118
  go_wp2_with fail
  go_loopg [5, 6, 7] (n + 1) (fun m v5 v6 v7 wr => ∃ i : Nat, v7 = .int .i64 i ∧ m = n + 1 - i ∧ i ≤ n ∧ w = wr ∧ v5 = .slice (some ⟨g, 0, none⟩) 0 cap ∧ v6 = .int .i64 0)
  case atStart => exact ⟨0, rfl, by omega, by omega, rfl, rfl, rfl⟩
  case round =>
    obtain ⟨i, rfl, rfl, hi, rfl, rfl, rfl⟩ := hrel
    have w1 : IntKind.i64.wrap ((i : Int) + 1) = (i : Int) + 1 := IntWalk.i64_in _ (by omega)
    by_cases hlt : i < n
    · have v1 : (i : Int) < n := by omega
      have v2 : (0 : Int) ≤ i := by omega
      obtain ⟨T, b, t, ht, k1, k2, hTT⟩ := HT.out.cell HO.out i hlt
      have HTT := Lib.hid hTT
      clear ht hTT
      go_wp2_with fail
      refine (toPlain_yes T b w HTT.out).mono ?_
      rintro e w' ⟨rfl, rfl⟩
      go_wp2_with fail
      go_roundg (n + 1 - (i + 1))
      case measure => omega
      case rel => exact ⟨i + 1, by simp, rfl, by omega, rfl, rfl, rfl⟩
    · have hin : i = n := by omega
      subst hin
      have w3 : ¬ ((i : Int) < i) := by omega
      have w4 : (0 : Int) < i := by omega
      have w5 : (i : Int) - 0 = i := by omega
      go_wp2_with fail
      refine (mergePlain1_many g i cap xs ts w HO.out HT.out hn2 hn hts).mono ?_
      rintro e w2 ⟨b, rfl, hbn, hb, hm2⟩
      have hrow2 := ownsRow_keep HO.out hm2 (fun _ _ x => x)
      go_wp2_with (at_builtin; refine wl_room_inl rfl (.tmp 27) (.tmp 34) rfl g 0 i cap xs (ownsRow_keep hrow2 ((Mods.refl (fun _ => False) w2).alloc _) (fun _ _ x => x)) (by omega) (.iface 224 (.pointer (some ⟨b, 0, none⟩))) rfl w2.heap.size 1 rfl rfl ((Blk.newAt _ _ rfl).cell 0) ?_)
      intro wB hmB hrB
      have hgb : b ≠ g := by
        obtain ⟨_, _, he, ⟨cur, hcur⟩, _, _⟩ := ownsRow_form hrow2 (by omega)
        cases he
        exact hb.ne_of_type hcur (by decide)
      have hbB := (Same.blk ((Mods.refl (fun _ => False) w2).alloc _) hb).keep1 hmB hgb
      go_wp2_with fail
      go_ret
      refine ⟨rfl, (hm2.mono (fun _ _ x => absurd x (fun x => x))).trans ((((Mods.refl (fun _ => False) w2).alloc _).mono (fun _ _ x => absurd x (fun x => x))).trans hmB), b, hbn, hbB, ?_⟩
      have hr1 := row_take hrB 1 (by omega)
      rwa [set_take1 xs _ (by have := HO.out.1; omega)] at hr1
end Go.Proofs.YtmmopoofheblbaaGreatDoor.G

/- mergePlain on any list of trees. -/
namespace Go.Proofs.YtmmopoofheblbaaGreatDoor.T
open Go Go.RowKit Go.Proofs

/-- The text of a plain inline. -/
def plainT : Inl → Option ByteArray
  | .leaf ty [.string t] => if ty = 224 ∨ ty = 266 then some t else none
  | _ => none
/-- A tree that is a plain text or none at all to toPlain. -/
def PlOk (x : Inl) : Prop := plainT x ≠ none ∨ (x.ty ≠ 224 ∧ x.ty ≠ 266 ∧ x.ty ≠ 228)
def flushM (acc : List ByteArray) : List Inl := if acc = [] then [] else [plainI (G.catT acc)]
def mergeGo : List ByteArray → List Inl → List Inl
  | acc, [] => flushM acc
  | acc, x :: l => match plainT x with
    | some t => mergeGo (acc ++ [t]) l
    | none => flushM acc ++ x :: mergeGo [] l
/-- mergePlain's list. -/
def mergeM (l : List Inl) : List Inl := mergeGo [] l

theorem catT_one (t : ByteArray) : G.catT [t] = t := by
  apply ByteArray.ext
  apply Array.toList_inj.1
  simp [G.catT, strL]

theorem plainT_some {x : Inl} {t : ByteArray} (h : plainT x = some t) : ∃ ty, x = .leaf ty [.string t] ∧ (ty = 224 ∨ ty = 266) := by
  unfold plainT at h
  split at h
  · rename_i ty u
    split at h
    · cases h
      exact ⟨ty, rfl, by assumption⟩
    · cases h
  · cases h

theorem toPlain_non (T : Nat) (h1 : T ≠ 224) (h2 : T ≠ 266) (h3 : T ≠ 228) (a : Option Addr) (w : World) : Calls Tryz.prog 136 #[.iface T (.pointer a)] w fun e w' => e = .returned (.pointer none) ∧ w = w' := by
  have g1 := fun X v w => as_ptr_no T 224 221 (by kernel_rfl) (fun _ => by kernel_rfl) X v w h1
  have g2 := fun X v w => as_ptr_no T 266 268 (by kernel_rfl) (fun _ => by kernel_rfl) X v w h2
  have g3 := fun X v w => as_ptr_no T 228 231 (by kernel_rfl) (fun _ => by kernel_rfl) X v w h3
  go_enter Tryz.func136, Tryz.ntmps136
  go_wp2_with fail
  go_ret
  exact ⟨rfl, rfl⟩

/-- The texts of plain inlines that lie in a block. -/
def GroupAt (w : World) (g so : Nat) (ts : List ByteArray) : Prop := ∀ (j : Nat) (t : ByteArray), ts[j]? = some t → ∃ T b, w.cell? ⟨g, so + j, none⟩ = some (.iface T (.pointer (some ⟨b, 0, none⟩))) ∧ w.cell? ⟨b, 0, none⟩ = some (.string t) ∧ (T = 224 ∨ T = 266)

set_option maxRecDepth 100000 in
set_option maxHeartbeats 4000000 in
theorem merge1_any (g so n cap : Nat) (ts : List ByteArray) (w : World) (hl : ts.length = n) (hn0 : 0 < n) (hn : n ≤ 1000000) (hcap : n ≤ cap) (hG : ∀ w', Same w w' → GroupAt w' g so ts) (hts : (G.catT ts).size ≤ 1000000) :
    Calls Tryz.prog 161 #[.slice (some ⟨g, so, none⟩) n cap] w fun e w' => ∃ b, e = .returned (.pointer (some ⟨b, 0, none⟩)) ∧ Same w w' ∧ ((n = 1 ∧ w = w' ∧ ∃ T, w.cell? ⟨g, so, none⟩ = some (.iface T (.pointer (some ⟨b, 0, none⟩)))) ∨ (w.heap.size ≤ b ∧ Blk w' b #[.string (G.catT ts)] 221)) := by
  by_cases h1 : n = 1
  · subst h1
    obtain ⟨t, ht⟩ : ∃ t, ts[0]? = some t := ⟨_, List.getElem?_eq_getElem (by omega)⟩
    obtain ⟨T, b, c1, _, hT⟩ := hG w (Mods.refl _ w) 0 t ht
    rw [Nat.add_zero] at c1
    have HG := Lib.hid hG
    have HT := Lib.hid hT
    clear hG hT ht
    go_enter Tryz.func161, Tryz.ntmps161
    go_wp2_with fail
    refine (G.toPlain_yes T b w HT.out).mono ?_
    rintro e w' ⟨rfl, rfl⟩
    go_wp2_with fail
    go_ret
    exact ⟨b, rfl, Mods.refl _ w, Or.inl ⟨by trivial, rfl, T, c1⟩⟩
  have HG := Lib.hid hG
  have HL := Lib.hid hl
  have HS := Lib.hid hts
  clear hG hl hts
  have w0 : ((n : Int) == 1) = false := beq_eq_false_iff_ne.2 (by omega)
  have w0' : ¬ n = 1 := by omega
  go_enter Tryz.func161, Tryz.ntmps161
  go_wp2_with fail
  clear w0 w0'
  go_loopg [3, 5, 15] n (fun k v3 v5 v15 wr => ∃ i : Nat, v15 = .int .i64 i ∧ k = n - i ∧ i ≤ n ∧ (i = 0 → v5 = undef) ∧ Same w wr ∧ wr.ownsRow 0 9 1 v3 i ((ts.take i).map .string) ∧ (∀ g2, v3.ownBlock = some g2 → w.heap.size ≤ g2))
  case atStart => exact ⟨0, rfl, rfl, Nat.zero_le _, fun _ => rfl, Mods.refl _ _, ⟨rfl, Or.inl ⟨rfl, rfl⟩⟩, fun _ h => by cases h⟩
  case round =>
    obtain ⟨i, rfl, rfl, hi, h5, hm, hrow, hfr⟩ := hrel
    by_cases hlt : i < n
    · have w1 : (i : Int) < n := by omega
      have w2 : (0 : Int) ≤ i := by omega
      have w3 : IntKind.i64.wrap ((i : Int) + 1) = (i : Int) + 1 := IntWalk.i64_in _ (by omega)
      obtain ⟨t, ht⟩ : ∃ t, ts[i]? = some t := ⟨_, List.getElem?_eq_getElem (by have := HL.out; omega)⟩
      obtain ⟨T, b, c1, c2, hTT⟩ := HG.out wr hm i t ht
      have HM := Lib.hid hm
      have HR := Lib.hid hrow
      have HF := Lib.hid hfr
      have Ht := Lib.hid ht
      have HTT := Lib.hid hTT
      clear hm hrow hfr ht hTT h5
      go_wp2_with fail
      refine (G.toPlain_yes T b wr HTT.out).mono ?_
      rintro e w' ⟨rfl, rfl⟩
      go_wp2_with (at_builtin; refine ap_str rfl (.tmp 19) (.tmp 25) rfl _ i _ rfl (ownsRow_keep HR.out ((Mods.refl (fun _ => False) wr).alloc _) (fun _ _ x => x)) wr.heap.size 1 t rfl ((Blk.newAt _ _ rfl).cell 0) (by omega) ?_)
      intro g2 c2 w2 hrow2 hgrow2 hloc2
      have hm3 : Same w w2 := (HM.out.trans ((Mods.refl (fun _ => False) wr).alloc _)).then (grown_mods hgrow2) (fun b hb x => absurd (HF.out b x) (by omega))
      go_wp2_with fail
      go_roundg (n - (i + 1))
      case measure => omega
      case rel =>
        refine ⟨i + 1, by simp, rfl, by omega, fun h => absurd h (by omega), hm3, ?_, ?_⟩
        · rw [List.take_add_one, Ht.out]
          simpa using hrow2
        · intro g3 hg3
          cases hg3
          rcases hloc2 with h | h
          · exact HF.out _ h
          · have := HM.out.size
            have h9 : g2 = wr.heap.size + 1 := by simpa using h
            show w.heap.size ≤ g2
            omega
    · have hin : i = n := by omega
      subst hin
      have w1 : ¬ ((i : Int) < i) := by omega
      rw [List.take_of_length_le (by have := HL.out; omega)] at hrow
      obtain ⟨g3, c3, rfl, ⟨cur3, hcur3⟩, _, hc3⟩ := ownsRow_form hrow (by omega)
      have hcap3 : i ≤ c3 := by
        rcases hrow.2 with ⟨h, _⟩ | ⟨_, _, _, h, _, _, hc, _⟩
        · cases h
        · cases h; exact hc
      have hJ : Calls Tryz.prog 209 #[.slice (some ⟨g3, 0, none⟩) i c3, .string ⟨#[]⟩] wr fun e W' => e = .returned (.string (G.catT ts)) ∧ Same wr W' := by
        have hl := HL.out
        subst hl
        refine (Tryz.strings_Join g3 0 c3 ts ⟨#[]⟩ wr ?_ hcur3.lt (by omega) hcap3 ?_).mono ?_
        · intro j x hx
          have := hc3 j (.string x) (by rw [List.getElem?_map, hx]; rfl)
          rw [Nat.zero_add]
          exact this
        · have e1 : (Lib.join (ts.map (·.data.toList)) (⟨#[]⟩ : ByteArray).data.toList).length = (G.catT ts).size := by
            show (Lib.join (ts.map (·.data.toList)) []).length = _
            rw [G.catT_join]
            rfl
          rw [e1]
          have := HS.out
          omega
        · rintro e w' ⟨h1, h2⟩
          refine ⟨?_, Below.mods h2 (fun k hk hk2 => absurd hk (by omega))⟩
          rw [h1]
          refine congrArg (fun b => Ending.returned (.string b)) ?_
          apply ByteArray.ext
          apply Array.toList_inj.1
          have : (Lib.join (ts.map (·.data.toList)) (⟨#[]⟩ : ByteArray).data.toList) = (G.catT ts).data.toList := G.catT_join ts
          simpa using this
      have HM := Lib.hid hm
      have HJ := Lib.hid hJ
      clear hm hJ hrow hc3 hcur3 hfr h5
      go_wp2_with fail
      refine HJ.out.mono ?_
      rintro e w2 ⟨rfl, hm2⟩
      go_wp2_with fail
      go_ret
      exact ⟨w2.heap.size, rfl, (HM.out.trans hm2).alloc _, Or.inr ⟨Nat.le_trans HM.out.size hm2.size, Blk.newAt _ _ rfl⟩⟩
end Go.Proofs.YtmmopoofheblbaaGreatDoor.T

/- mergePlain on any list of trees: the walk. -/
namespace Go.Proofs.YtmmopoofheblbaaGreatDoor.T
open Go Go.RowKit Go.Proofs

def totalT (l : List Inl) : Nat := (l.map (fun x => ((plainT x).getD ⟨#[]⟩).size)).sum
theorem catT_snoc (acc : List ByteArray) (t : ByteArray) : (G.catT (acc ++ [t])).size = (G.catT acc).size + t.size := by
  have h2 : ∀ ts : List ByteArray, (G.catT ts).size = (ts.flatMap (fun b => b.data.toList)).length := by
    intro ts
    show (ts.flatMap (fun b => b.data.toList)).toArray.size = _
    exact List.size_toArray
  have h3 : t.size = t.data.toList.length := (Array.length_toList).symm
  rw [h2, h2, List.flatMap_append, List.length_append, h3, List.flatMap_singleton]

/-- mergePlain has read i inlines; those from start on are texts that are not yet put together. -/
structure MR (A : Nat → Prop) (w wr : World) (g cap n : Nat) (xs : List Value) (src : List Inl) (i start : Nat) (made : List Inl) (acc : List ByteArray) (ys : List Value) : Prop where
  si : start ≤ i
  iN : i ≤ n
  al : acc.length = i - start
  ac : ∀ (j : Nat) (t : ByteArray), acc[j]? = some t → ∃ x, src[start + j]? = some x ∧ plainT x = some t
  go : made ++ mergeGo acc (src.drop i) = mergeM src
  sz : (G.catT acc).size + totalT (src.drop i) ≤ 1000000
  mods : Mods (fun k => k = g) w wr
  lst : Lst wr true g 0 cap n xs start (.slice (some ⟨g, 0, none⟩) ys.length cap) ys
  made_ : InlsAt A wr made ys
  left : ∀ (j : Nat) (x : Inl) (v : Value), start ≤ j → src[j]? = some x → xs[j]? = some v → InlAt A wr x v

theorem Lst.upto {w : World} {inp : Bool} {sg so sc n i i' : Nat} {xs ys : List Value} {dv : Value} (h : Lst w inp sg so sc n xs i dv ys) (hi : i ≤ i') : Lst w inp sg so sc n xs i' dv ys where
  len := h.len
  row := h.row
  yes hh := by
    obtain ⟨a, b, c, zs, d, e, f⟩ := h.yes hh
    exact ⟨a, by omega, c, zs, d, e, fun j hj => f j (by omega)⟩
  no := h.no

section
variable {A : Nat → Prop} {w wr : World} {g cap n : Nat} {xs : List Value} {src : List Inl} {i start : Nat} {made : List Inl} {acc : List ByteArray} {ys : List Value}

theorem MR.same {wr' : World} (h : MR A w wr g cap n xs src i start made acc ys) (hm : Same wr wr') : MR A w wr' g cap n xs src i start made acc ys :=
  ⟨h.si, h.iN, h.al, h.ac, h.go, h.sz, h.mods.then hm (fun _ _ x => absurd x (fun x => x)), h.lst.same hm, h.made_.same hm, fun j x v h1 h2 h3 => (h.left j x v h1 h2 h3).same hm⟩

theorem MR.group (h : MR A w wr g cap n xs src i start made acc ys) (hl : src.length = n) : ∀ w', Same wr w' → GroupAt w' g start acc := by
  intro w' hm j t hj
  have h1 := h.same hm
  obtain ⟨x, hx, hp⟩ := h1.ac j t hj
  obtain ⟨ty, rfl, hty⟩ := plainT_some hp
  have hlt := (List.getElem?_eq_some_iff.1 hx).1
  obtain ⟨v, hv⟩ : ∃ v, xs[start + j]? = some v := ⟨_, List.getElem?_eq_getElem (by have := h.lst.len; omega)⟩
  have h2 := h1.left _ _ _ (by omega) hx hv
  simp only [InlAt] at h2
  obtain ⟨b, T, rest, rfl, hb, _⟩ := h2
  have h3 := h1.lst.read (start + j) (by omega) (by omega) _ hv
  rw [Nat.zero_add] at h3
  exact ⟨ty, b, h3, by rw [hb.cell]; rfl, hty⟩

/-- The texts put together stand in memory. -/
theorem MR.text (h : MR A w wr g cap n xs src i start made acc ys) (hl : src.length = n) (hA : ∀ b, A b → b < w.heap.size) {wr' : World} {b : Nat} (hm : Same wr wr')
    (hb : (i - start = 1 ∧ wr = wr' ∧ ∃ T, wr.cell? ⟨g, start, none⟩ = some (.iface T (.pointer (some ⟨b, 0, none⟩)))) ∨ (wr.heap.size ≤ b ∧ Blk wr' b #[.string (G.catT acc)] 221)) :
    InlAt A wr' (plainI (G.catT acc)) (.iface 224 (.pointer (some ⟨b, 0, none⟩))) := by
  have hal := h.al
  rcases hb with ⟨h1, rfl, T, hT⟩ | ⟨h1, h2⟩
  · have hal1 : acc.length = 1 := by omega
    obtain ⟨t, rfl⟩ := List.length_eq_one_iff.1 hal1
    obtain ⟨x, hx, hp⟩ := h.ac 0 t rfl
    obtain ⟨ty, rfl, hty⟩ := plainT_some hp
    rw [Nat.add_zero] at hx
    have hlt' := (List.getElem?_eq_some_iff.1 hx).1
    obtain ⟨v, hv⟩ : ∃ v, xs[start]? = some v := ⟨_, List.getElem?_eq_getElem (by have := h.lst.len; omega)⟩
    have h2 := h.left _ _ _ (Nat.le_refl _) hx hv
    have h3 := h.lst.read start (Nat.le_refl _) (by omega) _ hv
    rw [Nat.zero_add, hT] at h3
    cases h3
    simp only [InlAt] at h2
    obtain ⟨b', T', rest, h4, h5, h6, h7⟩ := h2
    cases h4
    rw [catT_one]
    unfold plainI
    simp only [InlAt]
    exact ⟨b, T', rest, rfl, h5, h6, h7⟩
  · unfold plainI
    simp only [InlAt]
    refine ⟨b, 221, [], rfl, h2, fun ha => ?_, by decide⟩
    have := hA b ha
    have := h.mods.size
    omega

theorem go_plain {x : Inl} {t : ByteArray} (hx : src[i]? = some x) (hp : plainT x = some t) : mergeGo acc (src.drop i) = mergeGo (acc ++ [t]) (src.drop (i + 1)) := by
  rw [List.drop_eq_getElem_cons (List.getElem?_eq_some_iff.1 hx).1]
  have := (List.getElem?_eq_some_iff.1 hx).2
  rw [this]
  simp only [mergeGo, hp]
theorem go_node {x : Inl} (hx : src[i]? = some x) (hp : plainT x = none) : mergeGo acc (src.drop i) = flushM acc ++ x :: mergeGo [] (src.drop (i + 1)) := by
  rw [List.drop_eq_getElem_cons (List.getElem?_eq_some_iff.1 hx).1]
  have := (List.getElem?_eq_some_iff.1 hx).2
  rw [this]
  simp only [mergeGo, hp]
theorem total_cons {x : Inl} (hx : src[i]? = some x) : totalT (src.drop i) = ((plainT x).getD ⟨#[]⟩).size + totalT (src.drop (i + 1)) := by
  rw [List.drop_eq_getElem_cons (List.getElem?_eq_some_iff.1 hx).1]
  have := (List.getElem?_eq_some_iff.1 hx).2
  rw [this]
  rfl

theorem MR.plain (h : MR A w wr g cap n xs src i start made acc ys) (hlt : i < n) {x : Inl} {t : ByteArray} (hx : src[i]? = some x) (hp : plainT x = some t) : MR A w wr g cap n xs src (i + 1) start made (acc ++ [t]) ys := by
  have hal := h.al
  have hsi := h.si
  refine ⟨by omega, hlt, by rw [List.length_append, List.length_singleton]; omega, fun j u hj => ?_, by rw [← go_plain hx hp]; exact h.go, ?_, h.mods, h.lst, h.made_, h.left⟩
  · rcases getElem?_snoc hj with h1 | ⟨h1, h2⟩
    · exact h.ac j u h1
    · subst h2
      rw [h1, hal, show start + (i - start) = i by omega]
      exact ⟨x, hx, hp⟩
  · have h1 := h.sz
    rw [total_cons hx, hp] at h1
    rw [catT_snoc]
    simp only [Option.getD_some] at h1
    omega

theorem MR.none (h : MR A w wr g cap n xs src i start made acc ys) (hlt : i < n) {x : Inl} (hx : src[i]? = some x) (hp : plainT x = none) {v : Value} {wr' : World} {made' : List Inl} {ys' : List Value} (hmade : made' = made ++ flushM acc) (hgA : ∀ b, b = g → A b)
    (hm : Mods (fun k => k = g) wr wr') (hL : Lst wr' true g 0 cap n xs (i + 1) (.slice (some ⟨g, 0, none⟩) (ys'.length + 1) cap) (ys' ++ [v])) (hM : InlsAt A wr' made' ys') (hxv : InlAt A wr' x v) :
    MR A w wr' g cap n xs src (i + 1) (i + 1) (made' ++ [x]) [] (ys' ++ [v]) := by
  have hal := h.al
  have hsi := h.si
  refine ⟨Nat.le_refl _, hlt, by simp, fun j t hj => by simp at hj, ?_, ?_, h.mods.then hm (fun _ _ x => x), by rw [List.length_append, List.length_singleton]; exact hL, hM.append (by simp only [InlsAt]; exact ⟨hxv, trivial⟩), fun j x' v' h1 h2 h3 => ?_⟩
  · rw [hmade]
    have := h.go
    rw [go_node hx hp] at this
    rw [← this]
    simp
  · have h1 := h.sz
    rw [total_cons hx] at h1
    have h2 : (G.catT []).size = 0 := rfl
    rw [h2]
    omega
  · exact (h.left j x' v' (by omega) h2 h3).keep hm (fun b _ _ _ _ e => hgA b e) (fun _ hb => Or.inl hb)
end

set_option maxRecDepth 100000 in
set_option maxHeartbeats 8000000 in
theorem merge_any (A0 : Nat → Prop) (w : World) (q : Value) (g n cap : Nat) (xs : List Value) (src : List Inl) (hn0 : 0 < n) (hn : n ≤ 900000) (hrow : w.ownsRow 0 157 1 (.slice (some ⟨g, 0, none⟩) n cap) n xs) (hA0 : ∀ b, A0 b → b < w.heap.size)
    (hI : InlsAt (fun b => A0 b ∨ b = g) w src xs) (hok : ∀ x, x ∈ src → PlOk x) (hsz : totalT src ≤ 1000000) :
    Calls Tryz.prog 118 #[q, .slice (some ⟨g, 0, none⟩) n cap] w fun e w' => ∃ ys, e = .returned (.slice (some ⟨g, 0, none⟩) ys.length cap) ∧ Mods (fun k => k = g) w w' ∧ w'.ownsRow 0 157 1 (.slice (some ⟨g, 0, none⟩) ys.length cap) ys.length ys ∧ InlsAt (fun b => A0 b ∨ b = g) w' (mergeM src) ys := by
  obtain ⟨_, _, he, hcap, _, cur, hgb, _⟩ := row_shape hrow hn0
  cases he
  have hxl : xs.length = n := by have := hrow.1; omega
  have hl : src.length = n := hI.length.trans hxl
  have hA : ∀ b, (A0 b ∨ b = g) → b < w.heap.size := by
    rintro b (hb | rfl)
    · exact hA0 b hb
    · exact hgb.lt
  have hgA : ∀ b, b = g → (A0 b ∨ b = g) := fun b hb => Or.inr hb
  have hM0 : MR (fun b => A0 b ∨ b = g) w w g cap n xs src 0 0 [] [] [] := by
    refine ⟨Nat.le_refl _, Nat.zero_le _, rfl, fun j t hj => by simp at hj, rfl, by have h2 : (G.catT []).size = 0 := rfl; rw [h2, List.drop_zero]; omega, Mods.refl _ _, ?_, by simp only [InlsAt], fun j x v _ h1 h2 => hI.get j x v h1 h2⟩
    refine ⟨hxl, ?_, fun _ => ⟨rfl, Nat.le_refl _, rfl, xs, hrow, rfl, fun _ _ => rfl⟩, fun h => by cases h⟩
    exact row_take hrow (Nat.zero_le _) hn0
  have c1 : (0 : Int) ≤ cap := by omega
  have HM0 := Lib.hid hM0
  clear hM0 hI hrow
  go_enter Tryz.func118, Tryz.ntmps118
  go_wp2_with fail
  go_loopg [5, 6, 7] (n + 1) (fun m v5 v6 v7 wr => ∃ (i start : Nat) (made : List Inl) (acc : List ByteArray) (ys : List Value), v7 = .int .i64 i ∧ m = n + 1 - i ∧ v6 = .int .i64 start ∧ v5 = .slice (some ⟨g, 0, none⟩) ys.length cap ∧ MR (fun b => A0 b ∨ b = g) w wr g cap n xs src i start made acc ys)
  case atStart => exact ⟨0, 0, [], [], [], rfl, by omega, rfl, rfl, HM0.out⟩
  case round =>
    obtain ⟨i, start, made, acc, ys, rfl, rfl, rfl, rfl, hR⟩ := hrel
    have hsi := hR.si
    have hiN := hR.iN
    have hal := hR.al
    have hyl : ys.length ≤ start := (hR.lst.yes rfl).2.1
    have w1 : IntKind.i64.wrap ((i : Int) + 1) = (i : Int) + 1 := IntWalk.i64_in _ (by omega)
    have w2 : (0 : Int) ≤ i := by omega
    have HR := Lib.hid hR
    by_cases hlt : i < n
    · have w3 : (i : Int) < n := by omega
      have w4 : ¬ ((n : Int) ≤ i) := by omega
      obtain ⟨x, hx⟩ : ∃ x, src[i]? = some x := ⟨_, List.getElem?_eq_getElem (by omega)⟩
      obtain ⟨v, hv⟩ : ∃ v, xs[i]? = some v := ⟨_, List.getElem?_eq_getElem (by omega)⟩
      have hxv := hR.left i x v hsi hx hv
      obtain ⟨b, T, rfl, hT⟩ := hxv.val
      have hc := hR.lst.read i hsi hlt _ hv
      rw [Nat.zero_add] at hc
      have hx1 := hok x (List.mem_of_getElem? hx)
      have HX := Lib.hid hx
      have HV := Lib.hid hv
      have HXV := Lib.hid hxv
      cases hp : plainT x with
      | some t =>
        obtain ⟨ty, rfl, hty⟩ := plainT_some hp
        have hT' : T = ty := hT
        subst hT'
        have HP := Lib.hid hp
        clear hR hx hv hxv hp hT
        go_wp2_with fail
        refine (G.toPlain_yes T b wr hty).mono ?_
        rintro e w' ⟨rfl, rfl⟩
        go_wp2_with fail
        go_roundg (n + 1 - (i + 1))
        case measure => omega
        case rel => exact ⟨i + 1, start, made, acc ++ [t], ys, by simp, rfl, rfl, rfl, HR.out.plain hlt HX.out HP.out⟩
      | none =>
        have hTx : T ≠ 224 ∧ T ≠ 266 ∧ T ≠ 228 := by
          rcases hx1 with h | h
          · exact absurd hp h
          · have hTy : T = x.ty := by rw [hT]; cases x <;> rfl
            rw [hTy]
            exact h
        have HP := Lib.hid hp
        have HTX := Lib.hid hTx
        by_cases hst : start = i
        · subst hst
          have hacc : acc = [] := List.eq_nil_of_length_eq_zero (by omega)
          subst hacc
          have w5 : ¬ ((start : Int) < start) := by omega
          clear hR hx hv hxv hp hT hTx
          go_wp2_with fail
          refine (toPlain_non T HTX.out.1 HTX.out.2.1 HTX.out.2.2 _ wr).mono ?_
          rintro e w' ⟨rfl, rfl⟩
          go_wp2_with (at_builtin; refine wl_dst rfl (.tmp 40) (.tmp 45) rfl ((HR.out.lst.upto (Nat.le_succ start)).same ((Mods.refl (fun _ => False) wr).alloc _)) hyl hlt (by omega) T (.pointer (some ⟨b, 0, none⟩)) wr.heap.size 1 rfl rfl ((Blk.newAt _ _ rfl).cell 0) ?_)
          intro g2 cap2 w3 hL3 hm3 hloc3
          have hm3' : Mods (fun k => k = g) wr w3 := (((Mods.refl (fun _ => False) wr).alloc _).mono (S' := fun k => k = g) (fun _ _ x => absurd x (fun x => x))).then hm3 (fun k _ e => (Option.some.inj e).symm)
          have he3 := (hL3.yes rfl).2.2.1
          rw [List.length_append, List.length_singleton] at he3
          cases he3
          have hMk := HR.out.none hlt HX.out HP.out (made' := made) (ys' := ys) (by simp [flushM]) hgA hm3' hL3 (HR.out.made_.keep hm3' (fun b _ _ _ _ e => hgA b e) (fun _ hb => Or.inl hb)) (HXV.out.keep hm3' (fun b _ _ _ _ e => hgA b e) (fun _ hb => Or.inl hb))
          have HMK := Lib.hid hMk
          clear hMk hL3 hm3 hloc3 hm3'
          go_wp2_with fail
          go_roundg (n + 1 - (start + 1))
          case measure => omega
          case rel => exact ⟨start + 1, start + 1, made ++ [x], [], ys ++ [_], by simp, rfl, by simp, by simp, HMK.out⟩
        · have hlt2 : start < i := by omega
          have v1 : (start : Int) < i := by omega
          have v2 : (0 : Int) ≤ start := by omega
          have v3 : (start : Int) ≤ i := by omega
          have v4 : (i : Int) ≤ cap := by omega
          clear hR hx hv hxv hp hT hTx
          go_wp2_with fail
          refine (toPlain_non T HTX.out.1 HTX.out.2.1 HTX.out.2.2 _ wr).mono ?_
          rintro e w' ⟨rfl, rfl⟩
          go_wp2_with fail
          refine (merge1_any g start (i - start) _ acc wr hal (by omega) (by omega) (by omega) (HR.out.group hl) (by have := HR.out.sz; omega)).mono ?_
          rintro e w2 ⟨b2, rfl, hm2, hb2⟩
          have hTx2 := HR.out.text hl hA hm2 hb2
          go_wp2_with (at_builtin; refine wl_dst' rfl (.tmp 27) (.tmp 34) rfl (((HR.out.lst.upto hsi).same hm2).same ((Mods.refl (fun _ => False) w2).alloc _)) (by omega) (by omega) (by omega) 224 (.pointer (some ⟨b2, 0, none⟩)) w2.heap.size 1 rfl rfl ((Blk.newAt _ _ rfl).cell 0) ?_)
          intro g3 cap3 w3 hL3 hm3 hloc3
          have hm3' : Mods (fun k => k = g) w2 w3 := (((Mods.refl (fun _ => False) w2).alloc _).mono (S' := fun k => k = g) (fun _ _ x => absurd x (fun x => x))).then hm3 (fun k _ e => (Option.some.inj e).symm)
          have hmr3 : Mods (fun k => k = g) wr w3 := (hm2.mono (S' := fun k => k = g) (fun _ _ x => absurd x (fun x => x))).then hm3' (fun _ _ e => e)
          have he3 := (hL3.yes rfl).2.2.1
          rw [List.length_append, List.length_singleton] at he3
          cases he3
          have hc3 := hL3.read i (Nat.le_refl _) hlt _ HV.out
          rw [Nat.zero_add] at hc3
          have hTx3 := hTx2.keep hm3' (A' := fun b => A0 b ∨ b = g) (fun b _ _ _ _ e => hgA b e) (fun _ hb => Or.inl hb)
          have HL3 := Lib.hid hL3
          have HMR3 := Lib.hid hmr3
          have HT3 := Lib.hid hTx3
          clear hL3 hm3 hloc3 hm3' hmr3 hTx3 hTx2 hb2 hm2
          go_wp2_with (at_builtin; refine wl_dst rfl (.tmp 40) (.tmp 45) rfl ((HL3.out.upto (Nat.le_succ i)).same ((Mods.refl (fun _ => False) w3).alloc _)) (by rw [List.length_append, List.length_singleton]; omega) hlt (by omega) T (.pointer (some ⟨b, 0, none⟩)) w3.heap.size 1 rfl rfl ((Blk.newAt _ _ rfl).cell 0) ?_)
          intro g4 cap4 w4 hL4 hm4 hloc4
          have hm4' : Mods (fun k => k = g) w3 w4 := (((Mods.refl (fun _ => False) w3).alloc _).mono (S' := fun k => k = g) (fun _ _ x => absurd x (fun x => x))).then hm4 (fun k _ e => (Option.some.inj e).symm)
          have he4 := (hL4.yes rfl).2.2.1
          simp only [List.length_append] at he4
          cases he4
          have hmr4 := HMR3.out.then hm4' (fun _ _ e => e)
          have hmd : InlsAt (fun b => A0 b ∨ b = g) w4 (made ++ [plainI (G.catT acc)]) (ys ++ [.iface 224 (.pointer (some ⟨b2, 0, none⟩))]) := by
            refine (HR.out.made_.keep hmr4 (fun b _ _ _ _ e => hgA b e) (fun _ hb => Or.inl hb)).append ?_
            simp only [InlsAt]
            exact ⟨HT3.out.keep hm4' (fun b _ _ _ _ e => hgA b e) (fun _ hb => Or.inl hb), trivial⟩
          have hMk := HR.out.none hlt HX.out HP.out (made' := made ++ [plainI (G.catT acc)]) (ys' := ys ++ [.iface 224 (.pointer (some ⟨b2, 0, none⟩))]) (by
            unfold flushM
            rw [if_neg (fun e => by rw [e] at hal; simp at hal; omega)]) hgA hmr4 (by simpa using hL4) hmd (HXV.out.keep hmr4 (fun b _ _ _ _ e => hgA b e) (fun _ hb => Or.inl hb))
          have HMK := Lib.hid hMk
          clear hMk hL4 hm4 hloc4 hm4' hmr4 hmd
          go_wp2_with fail
          go_roundg (n + 1 - (i + 1))
          case measure => omega
          case rel => exact ⟨i + 1, i + 1, _, [], _, by simp, rfl, by simp, by simp, HMK.out⟩
    · have hin : i = n := by omega
      subst hin
      have w3 : ¬ ((i : Int) < i) := by omega
      by_cases hst : start = i
      · subst hst
        have hacc : acc = [] := List.eq_nil_of_length_eq_zero (by omega)
        subst hacc
        clear hR
        go_wp2_with fail
        go_ret
        have hg := HR.out.go
        rw [← hl, List.drop_length] at hg
        simp only [mergeGo, flushM, if_true, List.append_nil] at hg
        exact ⟨ys, rfl, HR.out.mods, HR.out.lst.row, by rw [← hg]; exact HR.out.made_⟩
      · have v1 : (start : Int) < i := by omega
        have v2 : (0 : Int) ≤ start := by omega
        have v3 : (start : Int) ≤ i := by omega
        have v4 : (i : Int) ≤ cap := by omega
        clear hR
        go_wp2_with fail
        refine (merge1_any g start (i - start) _ acc wr hal (by omega) (by omega) (by omega) (HR.out.group hl) (by have := HR.out.sz; omega)).mono ?_
        rintro e w2 ⟨b2, rfl, hm2, hb2⟩
        have hTx2 := HR.out.text hl hA hm2 hb2
        go_wp2_with (at_builtin; refine wl_dst' rfl (.tmp 27) (.tmp 34) rfl (((HR.out.lst.upto hsi).same hm2).same ((Mods.refl (fun _ => False) w2).alloc _)) (by omega) (by omega) (by omega) 224 (.pointer (some ⟨b2, 0, none⟩)) w2.heap.size 1 rfl rfl ((Blk.newAt _ _ rfl).cell 0) ?_)
        intro g3 cap3 w3 hL3 hm3 hloc3
        have hm3' : Mods (fun k => k = g) w2 w3 := (((Mods.refl (fun _ => False) w2).alloc _).mono (S' := fun k => k = g) (fun _ _ x => absurd x (fun x => x))).then hm3 (fun k _ e => (Option.some.inj e).symm)
        have hmr3 : Mods (fun k => k = g) wr w3 := (hm2.mono (S' := fun k => k = g) (fun _ _ x => absurd x (fun x => x))).then hm3' (fun _ _ e => e)
        have he3 := (hL3.yes rfl).2.2.1
        rw [List.length_append, List.length_singleton] at he3
        cases he3
        have hTx3 := hTx2.keep hm3' (A' := fun b => A0 b ∨ b = g) (fun b _ _ _ _ e => hgA b e) (fun _ hb => Or.inl hb)
        have HL3 := Lib.hid hL3
        have HMR3 := Lib.hid hmr3
        have HT3 := Lib.hid hTx3
        clear hL3 hm3 hloc3 hm3' hmr3 hTx3 hTx2 hb2 hm2
        go_wp2_with fail
        go_ret
        have hg := HR.out.go
        rw [← hl, List.drop_length] at hg
        simp only [mergeGo] at hg
        unfold flushM at hg
        rw [if_neg (fun e => by rw [e] at hal; simp at hal; omega)] at hg
        refine ⟨ys ++ [.iface 224 (.pointer (some ⟨b2, 0, none⟩))], by rw [List.length_append, List.length_singleton]; rfl, HR.out.mods.then HMR3.out (fun _ _ e => e), by have := HL3.out.row; rw [List.length_append, List.length_singleton] at this ⊢; exact this, ?_⟩
        rw [← hg]
        refine (HR.out.made_.keep HMR3.out (fun b _ _ _ _ e => hgA b e) (fun _ hb => Or.inl hb)).append ?_
        simp only [InlsAt]
        exact ⟨HT3.out, trivial⟩
end Go.Proofs.YtmmopoofheblbaaGreatDoor.T
