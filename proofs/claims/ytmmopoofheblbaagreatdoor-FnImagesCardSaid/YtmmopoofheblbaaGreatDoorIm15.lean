/- Some texts of one proof, put into one file: InE0, InE, Cont, Cont2, Cont3, Auto1. -/
import Derived.Test.YtmmopoofheblbaaGreatDoorIm3
import Derived.Test.YtmmopoofheblbaaGreatDoorIm5
import Derived.Test.YtmmopoofheblbaaGreatDoorIm13
import Derived.Test.YtmmopoofheblbaaGreatDoorIm14
/- emph's list does not hang on where the marks lie in memory. -/
namespace Go.Proofs.YtmmopoofheblbaaGreatDoor.T
open Go Go.RowKit Go.Proofs

def Mk.er (p : Mk) : Mk := { p with m := 0 }
def Dt.er : Dt → Dt
  | .mk p => .mk p.er
  | x => x
def erP (x : Nat × Mk) : Nat × Mk := (x.1, x.2.er)

theorem Dt.er_inl (d : Dt) : d.er.inl = d.inl := by cases d <;> rfl
theorem er_inls (l : List Dt) : (l.map Dt.er).map Dt.inl = l.map Dt.inl := by
  rw [List.map_map]
  exact List.map_congr_left (fun d _ => d.er_inl)
theorem er_marks : ∀ (l : List Dt) (j : Nat), marksFrom j (l.map Dt.er) = (marksFrom j l).map erP
  | [], _ => rfl
  | .fin t :: l, j => by
    simp only [List.map_cons, Dt.er, marksFrom]
    exact er_marks l _
  | .mk p :: l, j => by
    simp only [List.map_cons, Dt.er, marksFrom, er_marks l]
    rfl
theorem er_stk (q : Nat) (l : List Dt) : stkOf q (l.map Dt.er) = (stkOf q l).map erP := by
  unfold stkOf
  rw [er_marks, List.filter_map]
  rfl
theorem er_find (l : List (Nat × Mk)) (p : Mk) : findOp (l.map erP) p.er = (findOp l p).map erP := by
  unfold findOp
  rw [← List.map_reverse, List.find?_map]
  rfl
theorem er_close (l : List Dt) (j : Nat) (s p : Mk) : closeAt (l.map Dt.er) j s.er p.er = (closeAt l j s p).map Dt.er := by
  unfold closeAt
  have h1 : take2 p.er s.er = take2 p s := rfl
  have h2 : s.er.k = s.k := rfl
  rw [h1, h2, List.map_append, List.map_append, List.map_take, ← List.map_drop, er_inls]
  by_cases h : s.k = take2 p s
  · rw [if_pos h, if_pos h]
    rfl
  · rw [if_neg h, if_neg h]
    rfl
theorem er_loop : ∀ (f : Nat) (l : List Dt) (p : Mk), closeLoop f (l.map Dt.er) p.er = ((closeLoop f l p).1.map Dt.er, (closeLoop f l p).2.er)
  | 0, _, _ => rfl
  | f + 1, l, p => by
    have h1 : kIx p.er.c = kIx p.c := rfl
    have h2 : p.er.k = p.k := rfl
    simp only [closeLoop]
    rw [h1, er_stk, er_find]
    cases hf : findOp (stkOf (kIx p.c) l) p with
    | none => rfl
    | some x =>
      obtain ⟨j, s⟩ := x
      have h3 : take2 p.er s.er = take2 p s := rfl
      simp only [Option.map_some, erP]
      rw [h3, h2]
      by_cases h : p.k = take2 p s
      · rw [if_pos h, if_pos h, er_close]
        rfl
      · rw [if_neg h, if_neg h, er_close]
        exact er_loop f (closeAt l j s p) { p with k := p.k - take2 p s }
theorem er_closed (l : List Dt) (p : Mk) : closed (l.map Dt.er) p.er = ((closed l p).1.map Dt.er, (closed l p).2.er) := by
  unfold closed
  have h1 : p.er.cc = p.cc := rfl
  have h2 : p.er.k = p.k := rfl
  rw [h1, h2]
  cases p.cc
  · rfl
  · exact er_loop _ _ _
theorem er_step (l : List Dt) (x : Sr) : emStep (l.map Dt.er) x.er = (emStep l x).map Dt.er := by
  cases x with
  | fin t => simp [emStep, Sr.er, Dt.er]
  | opn t i => simp [emStep, Sr.er, Dt.er]
  | mk p =>
    have h0 : (Sr.mk p).er = .mk p.er := rfl
    rw [h0]
    simp only [emStep]
    rw [er_closed]
    have h1 : (closed l p).2.er.k = (closed l p).2.k := rfl
    have h2 : p.er.co = p.co := rfl
    simp only [h1, h2]
    by_cases h : (closed l p).2.k = 0
    · rw [if_pos h, if_pos h]
    · rw [if_neg h, if_neg h]
      cases p.co
      · simp only [Bool.false_eq_true, if_false, List.map_append, List.map_cons, List.map_nil]
        rfl
      · simp only [if_true, List.map_append, List.map_cons, List.map_nil]
        rfl
theorem er_dst (l : List Sr) : ∀ d : List Dt, (l.map Sr.er).foldl emStep (d.map Dt.er) = (l.foldl emStep d).map Dt.er := by
  induction l with
  | nil => intro d; rfl
  | cons x l ih =>
    intro d
    simp only [List.map_cons, List.foldl_cons]
    rw [er_step, ih]
theorem emphM_er (l : List Sr) : emphM (l.map Sr.er) = emphM l := by
  unfold emphM emDst
  have := er_dst l []
  rw [List.map_nil] at this
  rw [this, er_inls]
theorem plainS_er (s : ByteArray) (e i : Nat) : (plainS s e i).map Sr.er = plainS s e i := by
  unfold plainS
  split <;> rfl
theorem opn_er {l l' : List Sr} (h : l.map Sr.er = l') {j : Nat} {t : ByteArray} {k : Int} : l'[j]? = some (.opn t k) ↔ l[j]? = some (.opn t k) := by
  subst h
  rw [List.getElem?_map]
  cases l[j]? with
  | none => simp
  | some x => cases x <;> simp [Sr.er]
end Go.Proofs.YtmmopoofheblbaaGreatDoor.T

/- inline on any text: the loop. -/
namespace Go.Proofs.YtmmopoofheblbaaGreatDoor.T
open Go Go.RowKit Go.Proofs

set_option maxRecDepth 100000 in
set_option maxHeartbeats 4000000 in
theorem i_cond (bp : Nat) (s : ByteArray) (ov : Value) (last : Nat) (bt : Bool) (i : Nat) (w : World) (Q : Exit → Act → World → Prop) (h0 : s.size ≤ i → ∀ a', FrI bp s ov last bt i a' → Q (.exit 0) a' w) (h1 : i < s.size → ∀ a', FrI bp s ov last bt i a' → Q .normal a' w)
    (a : Act) (ha : FrI bp s ov last bt i a) : Code.wp Tryz.prog (fst (unloop i0)) Q a w := by
  obtain ⟨v, rfl⟩ := ha
  conv => arg 2; whnf
  rcases Nat.lt_or_ge i s.size with hi | hi
  · have H1 := Lib.hid (h1 hi)
    have w1 : (i : Int) < s.size := by omega
    clear h0 h1
    go_wp2_with fail
    exact H1.out _ ⟨(fun d => cond (Nat.ble 33 d && Nat.ble d 36) (List.getD [_, _, _, _] (d - 33) undef) (v d)), rfl⟩
  · have H1 := Lib.hid (h0 hi)
    have w1 : ¬ (i : Int) < s.size := by omega
    clear h0 h1
    go_wp2_with fail
    exact H1.out _ ⟨(fun d => cond (Nat.ble 33 d && Nat.ble d 36) (List.getD [_, _, _, _] (d - 33) undef) (v d)), rfl⟩

set_option maxRecDepth 100000 in
set_option maxHeartbeats 4000000 in
theorem i_inc (bp : Nat) (s : ByteArray) (ov : Value) (last : Nat) (bt : Bool) (i : Nat) (w : World) (hi : i ≤ 1000000) (Q : Exit → Act → World → Prop) (h1 : ∀ a', FrI bp s ov last bt (i + 1) a' → Q .normal a' w)
    (a : Act) (ha : FrI bp s ov last bt i a) : Code.wp Tryz.prog iInc Q a w := by
  have H1 := Lib.hid h1
  have w3 : IntKind.i64.wrap ((i : Int) + 1) = (i : Int) + 1 := IntWalk.i64_in _ (by omega)
  clear h1
  obtain ⟨v, rfl⟩ := ha
  conv => arg 2; whnf
  go_wp2_with fail
  exact H1.out _ ⟨(fun d => cond (Nat.ble 293 d && Nat.ble d 294) (List.getD [_, _] (d - 293) undef) (v d)), rfl⟩

structure RSt where
  e : Nat
  i : Nat
  l : List Sr
  ops : List OpE
  last : Nat

/-- One round of inline's loop. -/
inductive Step (st : Bool) (LK : World → PSt → Prop) (s : ByteArray) : RSt → RSt → Prop
  | idle {e i : Nat} {l : List Sr} {ops : List OpE} {last : Nat} (hi : i < s.size) (hc : s[i] ≠ 96) (hp : ∀ fn, pOf st s[i] = some fn → FailCall s i fn) (hb : s[i] = 93 → ops = []) : Step st LK s ⟨e, i, l, ops, last⟩ ⟨e, i + 1, l, ops, last⟩
  | piece {e i : Nat} {l : List Sr} {ops : List OpE} {last fn t en : Nat} {pc : Sr} (hi : i < s.size) (hf : pOf st s[i] = some fn) (hc : PieceCall s i fn pc t en) (hty : tyS pc ≠ 228) (h1 : e ≤ t) (h2 : t ≤ i) (h3 : i < en) (h4 : en ≤ s.size)
      (hadj : ∀ a b, (l ++ plainS s e t).getLast? = some (.mk a) → pc = .mk b → a.c ≠ b.c) : Step st LK s ⟨e, i, l, ops, last⟩ ⟨en, en, l ++ plainS s e t ++ [pc], ops, last⟩
  | open_ {e i : Nat} {l : List Sr} {ops : List OpE} {last fn t en : Nat} {u : ByteArray} {pos : Nat} (hi : i < s.size) (hf : pOf st s[i] = some fn) (hc : PieceCall s i fn (.opn u pos) t en) (h1 : e ≤ t) (h2 : t ≤ i) (h3 : i < en) (h4 : en ≤ s.size) (hu : u = bra (bra' u)) :
      Step st LK s ⟨e, i, l, ops, last⟩ ⟨en, en, l ++ plainS s e t ++ [.opn u pos], ops ++ [⟨(l ++ plainS s e t).length, bra' u, pos⟩], last⟩
  | no {e i : Nat} {l : List Sr} {ops : List OpE} {o : OpE} {last : Nat} (hi : i < s.size) (hc : s[i] = 93) (hN : (o.img || decide (last ≤ o.pos)) = true → CloseNo LK s i o.img o.pos) : Step st LK s ⟨e, i, l, ops ++ [o], last⟩ ⟨e, i + 1, l, ops, last⟩
  | yes {e i : Nat} {l : List Sr} {ops : List OpE} {o : OpE} {last : Nat} {url title : ByteArray} {tc : Nat} {cr : Bool} {en : Nat} (hi : i < s.size) (hc : s[i] = 93) (hg : (o.img || decide (last ≤ o.pos)) = true) (hY : CloseYes LK s i o.img o.pos url title tc cr en) (hL : CornerOf url) (h3 : i < en) (h4 : en ≤ s.size) :
      Step st LK s ⟨e, i, l, ops ++ [o], last⟩ ⟨en, en, (l ++ plainS s e i).take o.idx ++ [.fin (linkI o.img url title tc cr (emphM ((l ++ plainS s e i).drop (o.idx + 1))))], ops, if o.img then last else o.pos⟩

/-- All rounds, and the list in the end. -/
inductive Runs (st : Bool) (LK : World → PSt → Prop) (s : ByteArray) : RSt → List Sr → Prop
  | done {e : Nat} {l : List Sr} {ops : List OpE} {last : Nat} (he : e ≤ s.size) : Runs st LK s ⟨e, s.size, l, ops, last⟩ (l ++ plainS s e s.size)
  | step {x y : RSt} {out : List Sr} : Step st LK s x y → Runs st LK s y out → Runs st LK s x out

/-- What holds of a state. -/
structure RSt.Ok (x : RSt) (s : ByteArray) : Prop where
  ei : x.e ≤ x.i
  is : x.i ≤ s.size
  le : x.l.length ≤ x.e
  oe : x.ops.length ≤ x.e
  ops : ∀ o, o ∈ x.ops → x.l[o.idx]? = some (.opn (bra o.img) (o.pos : Int))
  mono : x.ops.Pairwise (fun a b => a.idx < b.idx)

theorem plainS_len (s : ByteArray) (e t : Nat) (h : e ≤ t) : (plainS s e t).length + e ≤ t := by
  unfold plainS
  split
  · simp only [List.length_singleton]; omega
  · simp only [List.length_nil]; omega

theorem Step.ok {st : Bool} {LK : World → PSt → Prop} {s : ByteArray} {x y : RSt} (h : Step st LK s x y) (hx : x.Ok s) : y.Ok s ∧ x.i < y.i := by
  cases h with
  | idle hi hc hp hb => exact ⟨⟨by have := hx.ei; show _ ≤ _; simp only at *; omega, hi, hx.le, hx.oe, hx.ops, hx.mono⟩, Nat.lt_succ_self _⟩
  | @piece e i l ops last fn t en pc hi hf hc hty h1 h2 h3 h4 hadj =>
    have hp := plainS_len s e t h1
    have hle := hx.le
    have hoe := hx.oe
    simp only at hle hoe
    refine ⟨⟨Nat.le_refl _, h4, ?_, ?_, fun o ho => ?_, hx.mono⟩, h3⟩
    · simp only [List.length_append, List.length_singleton]; omega
    · simp only; omega
    · have h5 := hx.ops o ho
      simp only at h5 ⊢
      have h6 := (List.getElem?_eq_some_iff.1 h5).1
      rw [List.append_assoc, List.getElem?_append_left h6]
      exact h5
  | @open_ e i l ops last fn t en u pos hi hf hc h1 h2 h3 h4 hu =>
    have hp := plainS_len s e t h1
    have hle := hx.le
    have hoe := hx.oe
    simp only at hle hoe
    refine ⟨⟨Nat.le_refl _, h4, ?_, ?_, fun o ho => ?_, ?_⟩, h3⟩
    · simp only [List.length_append, List.length_singleton]; omega
    · simp only [List.length_append, List.length_singleton]; omega
    · simp only at ho ⊢
      rcases List.mem_append.1 ho with ho | ho
      · have h5 := hx.ops o ho
        simp only at h5
        have h6 := (List.getElem?_eq_some_iff.1 h5).1
        rw [List.append_assoc, List.getElem?_append_left h6]
        exact h5
      · rw [List.mem_singleton] at ho
        subst ho
        simp only [List.getElem?_concat_length]
        rw [← hu]
    · simp only
      refine List.pairwise_append.2 ⟨hx.mono, List.pairwise_singleton _ _, fun a ha b hb => ?_⟩
      rw [List.mem_singleton] at hb
      subst hb
      have h5 := hx.ops a ha
      simp only at h5
      have h6 := (List.getElem?_eq_some_iff.1 h5).1
      simp only [List.length_append]
      omega
  | @no e i l ops o last hi hc hN =>
    have hoe := hx.oe
    simp only [List.length_append, List.length_singleton] at hoe
    exact ⟨⟨by have := hx.ei; simp only at *; omega, hi, hx.le, by simp only; omega, fun o' ho => hx.ops o' (List.mem_append_left _ ho), (List.pairwise_append.1 hx.mono).1⟩, Nat.lt_succ_self _⟩
  | @yes e i l ops o last url title tc cr en hi hc hg hY hL h3 h4 =>
    have hle := hx.le
    have hoe := hx.oe
    have hei := hx.ei
    simp only [List.length_append, List.length_singleton] at hoe hle hei
    have h5 := hx.ops o (List.mem_append_right _ (List.mem_singleton_self _))
    simp only at h5
    have h6 := (List.getElem?_eq_some_iff.1 h5).1
    refine ⟨⟨Nat.le_refl _, h4, ?_, by simp only; omega, fun o' ho => ?_, (List.pairwise_append.1 hx.mono).1⟩, h3⟩
    · simp only [List.length_append, List.length_singleton, List.length_take]; omega
    · have h7 := hx.ops o' (List.mem_append_left _ ho)
      have h8 := (List.pairwise_append.1 hx.mono).2.2 o' ho o (List.mem_singleton_self _)
      simp only at h7 ⊢
      have h9 := (List.getElem?_eq_some_iff.1 h7).1
      rw [List.getElem?_append_left (by rw [List.length_take, List.length_append]; omega), List.getElem?_take_of_lt h8, List.getElem?_append_left h9]
      exact h7

/-- What holds of the memory and the frame when a round begins. -/
structure RAt (LK : World → PSt → Prop) (w0 w : World) (bp : Nat) (p : PSt) (s : ByteArray) (bt : Bool) (x : RSt) (a : Act) (c : Bool) (ov lv : Value) (xs : List Value) (l : List Sr) : Prop where
  fr : FrI bp s ov x.last bt x.i a
  at_ : ISt NoB w0 w bp { p with corner := c } s x.e lv xs l
  ops : OpsAt w0 w ov x.ops
  er : l.map Sr.er = x.l

theorem i_loop (st : Bool) (LK : World → PSt → Prop) (w0 : World) (bp : Nat) (p : PSt) (s : ByteArray) (bt : Bool) (hs : s.size ≤ 900000) (hO : OptS w0 p st) (hpb : p.parser ≠ bp) (hLK : ∀ W q, Mods (fun k => k = bp) w0 W → q.links = p.links → LK W q)
    (hcf : ∀ c fn, pOf st c = some fn → ∀ (args : Array Value) (W : World), (callFunc fn args).run Tryz.prog W = .ok (.enter fn args) W) (out : List Sr) (x : RSt) (hR : Runs st LK s x out) (hx : x.Ok s)
    (Q : Exit → Act → World → Prop) (hq : ∀ a' w' c ov' last' e lv' xs' l', FrI bp s ov' last' bt s.size a' → ISt NoB w0 w' bp { p with corner := c } s e lv' xs' l' → e ≤ s.size → l'.length ≤ e → (l' ++ plainS s e s.size).map Sr.er = out → Q (.exit 0) a' w')
    (a : Act) (w : World) (c : Bool) (ov lv : Value) (xs : List Value) (l : List Sr) (h : RAt LK w0 w bp p s bt x a c ov lv xs l) : Code.wp Tryz.prog i0 Q a w := by
  rw [i0_sq]
  refine wp_loop_ghost (fun m a' w' => ∃ y c ov lv xs l, RAt LK w0 w' bp p s bt y a' c ov lv xs l ∧ y.Ok s ∧ Runs st LK s y out ∧ m = s.size - y.i) (s.size - x.i) ⟨x, c, ov, lv, xs, l, h, hx, hR, rfl⟩ ?_
  rintro m a1 w1 ⟨y, c1, ov1, lv1, xs1, l1, h1, hy, hR1, rfl⟩
  have hlen1 : xs1.length = y.l.length := by rw [← h1.er, List.length_map, h1.at_.src.len]
  have hle := hy.le
  have hei := hy.ei
  have his := hy.is
  have hoe := hy.oe
  have hO1 : OptS w1 { p with corner := c1 } st := by
    have := hO.keep h1.at_.mods hpb
    exact ⟨this.k1, this.k3, this.k6, this.k7, this.k8, this.k9⟩
  refine wp_seq (i_cond bp s ov1 y.last bt y.i w1 _ (fun hge a2 ha2 => ?_) (fun hlt a2 ha2 => ?_) a1 h1.fr)
  · -- the end
    have hyi : y.i = s.size := by omega
    cases hR1 with
    | @done e l ops last he =>
      exact hq a2 w1 c1 ov1 last e lv1 xs1 l1 ha2 h1.at_ he (by have := h1.at_.src.len; simp only at hle hlen1; omega) (by rw [List.map_append, plainS_er, h1.er])
    | step hst _ =>
      have h2 := (hst.ok hy).2
      have h3 := (hst.ok hy).1.is
      omega
  · cases hR1 with
    | @done e l ops last he => exact absurd hlt (Nat.lt_irrefl _)
    | @step _ z _ hst hRz =>
      have hz := hst.ok hy
      -- the next round
      have hround : ∀ a' w' c' ov' lv' xs' l', RAt LK w0 w' bp p s bt z a' c' ov' lv' xs' l' → ∃ m', m' < s.size - y.i ∧ ∃ y c ov lv xs l, RAt LK w0 w' bp p s bt y a' c ov lv xs l ∧ y.Ok s ∧ Runs st LK s y out ∧ m' = s.size - y.i :=
        fun a' w' c' ov' lv' xs' l' hr => ⟨s.size - z.i, by have := hz.1.is; have := hz.2; omega, z, c', ov', lv', xs', l', hr, hz.1, hRz, rfl⟩
      clear hq hRz
      refine wp_block (wp_seq (i_first bp s ov1 y.last bt y.i w1 _ (fun a3 ha3 => ?_) a2 ha2))
      generalize hQB : (Exit.inBlock 1 _ : Exit → Act → World → Prop) = QB
      have hnorm : ∀ a' w' c' ov' lv' xs' l', RAt LK w0 w' bp p s bt z a' c' ov' lv' xs' l' → QB .normal a' w' := by
        intro a' w' c' ov' lv' xs' l' hr
        subst hQB
        exact hround a' w' c' ov' lv' xs' l' hr
      have hexit : ∀ a' w' c' ov' lv' xs' l', RAt LK w0 w' bp p s bt z a' c' ov' lv' xs' l' → QB (.exit 1) a' w' := by
        intro a' w' c' ov' lv' xs' l' hr
        subst hQB
        exact hit (hround a' w' c' ov' lv' xs' l' hr)
      clear hQB hround
      cases hst with
      | @idle e i l ops last hi hc hp hb =>
        refine wp_seq (sw bp s ov1 last bt i _ st w1 h1.at_.at_ ⟨hO1.k1, hO1.k3, hO1.k6, hO1.k7, hO1.k8, hO1.k9⟩ hi (by omega) hc _ (fun a4 ha4 => ?_) a3 ha3)
        have hend : ∀ a5 w5 c5, FrI bp s ov1 last bt i a5 → ISt NoB w0 w5 bp { p with corner := c5 } s e lv1 xs1 l1 → OpsAt w0 w5 ov1 ops → Code.wp Tryz.prog (.seq iClose iInc) QB a5 w5 := by
          intro a5 w5 c5 ha5 hS5 hops5
          by_cases h93 : s[i] = 93
          · have hop := hb h93
            subst hop
            have hov : ∃ oa oc, ov1 = .slice oa 0 oc := by
              rcases hops5.row.2 with ⟨h1, h2⟩ | ⟨g, cap, cur, h1, _⟩
              · exact ⟨none, 0, h1⟩
              · exact ⟨_, _, h1⟩
            obtain ⟨oa, oc, rfl⟩ := hov
            rw [iClose_sq]
            refine wp_seq (wp_seq (d58_yes bp s oa 0 oc last bt i w5 hi (by omega) h93 _ (fun a6 ha6 he6 => ?_) a5 ha5))
            refine wp_cond he6 (wp_skip ?_)
            refine i_inc bp s _ last bt i w5 (by omega) _ (fun a7 ha7 => ?_) a6 ha6
            exact hnorm a7 w5 c5 _ lv1 xs1 l1 ⟨ha7, hS5, hops5, h1.er⟩
          · rw [iClose_sq]
            refine wp_seq (wp_seq (d58_no bp s ov1 last bt i w5 hi (by omega) h93 _ (fun a6 ha6 he6 => ?_) a5 ha5))
            refine wp_cond he6 (wp_skip ?_)
            refine i_inc bp s _ last bt i w5 (by omega) _ (fun a7 ha7 => ?_) a6 ha6
            exact hnorm a7 w5 c5 _ lv1 xs1 l1 ⟨ha7, hS5, hops5, h1.er⟩
        cases hpo : pOf st s[i] with
        | none =>
          rw [hpo] at ha4
          exact wp_seq (call_none bp s ov1 last bt i w1 _ (fun a5 ha5 => hend a5 w1 c1 ha5 h1.at_ h1.ops) a4 ha4)
        | some fn =>
          rw [hpo] at ha4
          refine wp_seq (call_fail bp s ov1 last bt i fn _ w1 h1.at_.at_ (hcf _ fn hpo) (hp fn hpo) _ (fun a5 w5 c5 ha5 hm5 hp5 => ?_) a4 ha4)
          obtain ⟨_, S5⟩ := h1.at_.called hm5 hp5
          exact hend a5 w5 c5 ha5 S5 (h1.ops.keep hm5 (fun b cs T hb hx => h1.at_.noint b cs T hb (Or.inl hx)))
      | @piece e i l ops last fn t en pc hi hf hc hty g1 g2 g3 g4 hadj =>
        have hn96 : s[i] ≠ 96 := fun e => by rw [e] at hf; cases st <;> cases hf
        refine wp_seq (sw bp s ov1 last bt i _ st w1 h1.at_.at_ ⟨hO1.k1, hO1.k3, hO1.k6, hO1.k7, hO1.k8, hO1.k9⟩ hi (by omega) hn96 _ (fun a4 ha4 => ?_) a3 ha3)
        rw [hf] at ha4
        have er1 := h1.er
        simp only at er1 hle hei hlen1
        refine wp_seq (call_piece h1.at_ ov1 ops h1.ops last bt i fn t en pc (hcf _ fn hf) hc hty g1 (by omega) g4 hs (by omega) ?_ _ (fun a5 w5 c5 lv5 xs5 x5 hx5 ha5 hS5 hops5 => ?_) a4 ha4)
        · intro m n hm hn
          have h5 : (l ++ plainS s e t).getLast? = some (.mk m.er) := by
            rw [← er1, ← plainS_er, ← List.map_append, List.getLast?_map, hm]
            rfl
          exact hadj m.er n h5 hn
        · refine hexit a5 w5 c5 _ lv5 xs5 _ ⟨ha5, hS5, hops5, ?_⟩
          rw [List.map_append, List.map_append, er1, plainS_er, List.map_singleton, hx5]
      | @open_ e i l ops last fn t en u pos hi hf hc g1 g2 g3 g4 hu =>
        have hn96 : s[i] ≠ 96 := fun e => by rw [e] at hf; cases st <;> cases hf
        refine wp_seq (sw bp s ov1 last bt i _ st w1 h1.at_.at_ ⟨hO1.k1, hO1.k3, hO1.k6, hO1.k7, hO1.k8, hO1.k9⟩ hi (by omega) hn96 _ (fun a4 ha4 => ?_) a3 ha3)
        rw [hf] at ha4
        have er1 := h1.er
        simp only at er1 hle hei hlen1 hoe
        refine wp_seq (call_open h1.at_ ov1 ops h1.ops last bt i fn t en u pos (hcf _ fn hf) hc g1 (by omega) g4 hs (by omega) (by omega) _ (fun a5 w5 c5 lv5 xs5 ov5 ha5 hS5 hops5 => ?_) a4 ha4)
        have hll : (l1 ++ plainS s e t).length = (l ++ plainS s e t).length := by
          rw [← er1, List.length_append, List.length_append, List.length_map]
        rw [hll] at hops5
        refine hexit a5 w5 c5 _ lv5 xs5 _ ⟨ha5, hS5, hops5, ?_⟩
        rw [List.map_append, List.map_append, er1, plainS_er, List.map_singleton]
        rfl
      | @no e i l ops o last hi hc hN =>
        have hn96 : s[i] ≠ 96 := fun e => by rw [e] at hc; cases hc
        refine wp_seq (sw bp s ov1 last bt i _ st w1 h1.at_.at_ ⟨hO1.k1, hO1.k3, hO1.k6, hO1.k7, hO1.k8, hO1.k9⟩ hi (by omega) hn96 _ (fun a4 ha4 => ?_) a3 ha3)
        have hpo : pOf st s[i] = none := by rw [hc]; cases st <;> rfl
        rw [hpo] at ha4
        have er1 := h1.er
        simp only [List.length_append, List.length_singleton] at er1 hle hei hlen1 hoe
        have hop := (opn_er er1).1 (hy.ops o (List.mem_append_right _ (List.mem_singleton_self _)))
        refine wp_seq (call_none bp s ov1 last bt i w1 _ (fun a5 ha5 => ?_) a4 ha4)
        refine wp_seq (bracket h1.at_ ov1 ops o h1.ops hop LK hLK last bt i hi hc hei hs (by omega) (by omega) none (fun hg _ => hN hg) (fun _ _ _ _ _ h => by cases h) _ (fun _ a6 w6 c6 ov6 ha6 hS6 hops6 => ?_) (fun _ _ _ _ _ h => by cases h) a5 ha5)
        refine i_inc bp s _ last bt i w6 (by omega) _ (fun a7 ha7 => ?_) a6 ha6
        exact hnorm a7 w6 c6 _ lv1 xs1 l1 ⟨ha7, hS6, hops6, er1⟩
      | @yes e i l ops o last url title tc cr en hi hc hg hY hL g3 g4 =>
        have hn96 : s[i] ≠ 96 := fun e => by rw [e] at hc; cases hc
        refine wp_seq (sw bp s ov1 last bt i _ st w1 h1.at_.at_ ⟨hO1.k1, hO1.k3, hO1.k6, hO1.k7, hO1.k8, hO1.k9⟩ hi (by omega) hn96 _ (fun a4 ha4 => ?_) a3 ha3)
        have hpo : pOf st s[i] = none := by rw [hc]; cases st <;> rfl
        rw [hpo] at ha4
        have er1 := h1.er
        simp only [List.length_append, List.length_singleton] at er1 hle hei hlen1 hoe
        have hop := (opn_er er1).1 (hy.ops o (List.mem_append_right _ (List.mem_singleton_self _)))
        refine wp_seq (call_none bp s ov1 last bt i w1 _ (fun a5 ha5 => ?_) a4 ha4)
        refine wp_seq (bracket h1.at_ ov1 ops o h1.ops hop LK hLK last bt i hi hc hei hs (by omega) (by omega) (some (url, title, tc, cr, en)) (fun _ h => by cases h) (fun _ _ _ _ _ h => by cases h; exact ⟨hg, hY, hL, g4⟩) _ (fun h => by cases h) (fun _ _ _ _ _ h a6 w6 c6 ov6 lv6 xs6 ha6 hS6 hops6 => ?_) a5 ha5)
        cases h
        refine hexit a6 w6 c6 _ lv6 xs6 _ ⟨ha6, hS6, hops6, ?_⟩
        rw [List.map_append, List.map_take, List.map_append, plainS_er, er1, List.map_singleton]
        have h8 : emphM ((l1 ++ plainS s e i).drop (o.idx + 1)) = emphM ((l ++ plainS s e i).drop (o.idx + 1)) := by
          rw [← emphM_er, List.map_drop, List.map_append, plainS_er, er1]
        rw [h8]
        rfl
end Go.Proofs.YtmmopoofheblbaaGreatDoor.T

/- The trials for blocks where a paragraph is open: a line that goes on with it. -/
namespace Go.Proofs.YtmmopoofheblbaaGreatDoor
open Go Go.RowKit Go.Proofs

/-- A paragraph is open, at place n of the stack. -/
structure InPara (w : World) (bp g n cap : Nat) (p : PSt) (bb : Nat) : Prop where
  at_ : PsAt w bp p
  stack : p.stack = .slice (some ⟨g, 0, none⟩) (n + 1) cap
  small : n ≤ 1000
  top : w.cell? ⟨g, n * 4, none⟩ = some (.iface 287 (.pointer (some ⟨bb, 0, none⟩)))

theorem InPara.same {w w' : World} {bp g n cap : Nat} {p : PSt} {bb : Nat} (h : InPara w bp g n cap p bb) (hm : Same w w') : InPara w' bp g n cap p bb :=
  ⟨h.at_.same hm, h.stack, h.small, (World.cell?_of_block (hm.block g (World.block_lt_of_cell? _ _ h.top) (fun x => x))).trans h.top⟩

set_option maxHeartbeats 2000000 in
/-- The paragraph is the next block: a line under it would make it a heading, this one does not. -/
theorem newSetext_cont (bp g n cap : Nat) (p : PSt) (bb : Nat) (text : ByteArray) (i : Nat) (nl : Int) (w : World) (h : InPara w bp g n cap p bb) (d : Nat) (hd : p.depth = d) (hdn : d + 1 = n) (hi : i ≤ text.size) (hT : Txt text)
    (c1 : ((at0 text (p3 text i)).toNat : Int) ≠ 45) (c2 : ((at0 text (p3 text i)).toNat : Int) ≠ 61) :
    Calls Tryz.prog 166 #[.pointer (some ⟨bp, 0, none⟩), LV i text nl] w fun e w' => e = .returned (.tuple #[LV i text nl, .bool false]) ∧ Same w w' := by
  subst hdn
  have hsm := h.small
  have hq := eql_para_para
  go_enter Tryz.func166, Tryz.ntmps166
  go_wp2_with fail
  generalize hW : ((((w.alloc _).alloc _).alloc _).alloc _ : World) = W
  have hm0 : Same w W := by subst hW; exact ((((Mods.refl _ w).alloc _).alloc _).alloc _).alloc _
  have hb : LineAt W w.heap.size i text nl := by subst hW; exact (((Blk.newAt _ _ rfl).alloc _).alloc _).alloc _
  have hr : LineAt W (w.heap.size + 1) 0 ⟨#[]⟩ 0 := by subst hW; exact ((Blk.newAt _ _ (by simp)).alloc _).alloc _
  have hl : LineAt W (w.heap.size + 1 + 1 + 1) i text nl := by subst hW; exact Blk.newAt _ _ (by simp)
  clear hW
  have h1 := h.same hm0
  refine (nextB_some bp g _ _ p W h1.at_ h1.stack d hd (by omega) (by omega) _ h1.top).mono ?_
  rintro e w1 ⟨rfl, n1, rfl⟩
  go_wp2_with fail
  refine (para_yes bp g (d + 1) cap p _ _ (h1.at_.drewN n1) h1.stack (by omega) h1.top).mono ?_
  rintro e w2 ⟨rfl, n2, rfl⟩
  have hm2 : Same w ((W.drewN n1).drewN n2) := (hm0.drewN n1).drewN n2
  have hb2 : LineAt ((W.drewN n1).drewN n2) w.heap.size i text nl := hb
  have hr2 : LineAt ((W.drewN n1).drewN n2) (w.heap.size + 1) 0 ⟨#[]⟩ 0 := hr
  have hl2 : LineAt ((W.drewN n1).drewN n2) (w.heap.size + 1 + 1 + 1) i text nl := hl
  generalize (W.drewN n1).drewN n2 = W2 at *
  clear hb hr hl h1 h hd hm0
  go_wp2_with fail
  refine (trimSetext_no _ _ text i nl W2 hi hT hl2 c1 c2).mono ?_
  rintro e w3 ⟨rfl, hm3⟩
  have hb3 := Same.blk hm3 hb2
  have hr3 := Same.blk hm3 hr2
  have hk := hm2.trans hm3
  obtain ⟨g0, g1, g2, g3, g4, gf0, gf1, gf2, gf3, gf4, gbl⟩ := LineAt.facts hb3
  obtain ⟨r0, r1, r2, r3, r4, rf0, rf1, rf2, rf3, rf4, rbl⟩ := LineAt.facts hr3
  clear hb2 hr2 hl2 hb3 hm2 hm3 c1 c2
  go_wp2
  exact bodyPost_ret (v := .tuple #[LV i text nl, .bool false]) (by simp [results, Tryz.results166, go_sem, r0, r1, r2, r3, r4]) rfl ⟨rfl, by
    exact hk.then ((put5 hr3 i text nl).1) (by intro b hb; omega)⟩

set_option maxHeartbeats 1000000 in
theorem newPre_cont (bp g n cap : Nat) (p : PSt) (bb : Nat) (text : ByteArray) (i : Nat) (nl : Int) (w : World) (h : InPara w bp g n cap p bb) :
    Calls Tryz.prog 171 #[.pointer (some ⟨bp, 0, none⟩), LV i text nl] w fun e w' => e = .returned (.tuple #[LV i text nl, .bool false]) ∧ Same w w' := by
  have hsm := h.small
  go_enter Tryz.func171, Tryz.ntmps171
  go_wp2_with fail
  generalize hW : (((w.alloc _).alloc _).alloc _ : World) = W
  have hm0 : Same w W := by subst hW; exact (((Mods.refl _ w).alloc _).alloc _).alloc _
  have hb : LineAt W w.heap.size i text nl := by subst hW; exact ((Blk.newAt _ _ rfl).alloc _).alloc _
  have hr : LineAt W (w.heap.size + 1) 0 ⟨#[]⟩ 0 := by subst hW; exact (Blk.newAt _ _ (by simp)).alloc _
  clear hW
  have h1 := h.same hm0
  refine (para_yes bp g n cap p _ W h1.at_ h1.stack (by omega) h1.top).mono ?_
  rintro e w1 ⟨rfl, n1, rfl⟩
  have hd1 : Same W (W.drewN n1) := (Mods.refl _ W).drewN n1
  have hb1 := Same.blk hd1 hb
  have hr1 := Same.blk hd1 hr
  have hk := hm0.trans hd1
  generalize W.drewN n1 = W1 at *
  obtain ⟨g0, g1, g2, g3, g4, gf0, gf1, gf2, gf3, gf4, gbl⟩ := LineAt.facts hb1
  obtain ⟨r0, r1, r2, r3, r4, rf0, rf1, rf2, rf3, rf4, rbl⟩ := LineAt.facts hr1
  clear hb hr hb1 hm0 hd1 h h1
  go_wp2_with fail
  exact bodyPost_ret (v := .tuple #[LV i text nl, .bool false]) (by simp [results, Tryz.results171, go_sem, r0, r1, r2, r3, r4]) rfl ⟨rfl, by
    exact hk.then ((put5 hr1 i text nl).1) (by intro b hb; omega)⟩
end Go.Proofs.YtmmopoofheblbaaGreatDoor

/- newPara where a paragraph is open: the line goes on with it. -/
namespace Go.Proofs.YtmmopoofheblbaaGreatDoor
open Go Go.RowKit Go.Proofs

/-- The last line of the open blocks from place d on. -/
def updE (L : List OB) (d m : Nat) (e : Int) : List OB := L.mapIdx (fun i o => if d ≤ i ∧ i < m then { o with e := e } else o)

theorem updE_len (L : List OB) (d m : Nat) (e : Int) : (updE L d m e).length = L.length := by simp [updE]
theorem updE_get (L : List OB) (d m : Nat) (e : Int) (i : Nat) : (updE L d m e)[i]? = L[i]?.map (fun o => if d ≤ i ∧ i < m then { o with e := e } else o) := by simp [updE, List.getElem?_mapIdx]
theorem updE_zero (L : List OB) (d : Nat) (e : Int) : updE L d d e = L := by
  apply List.ext_getElem?
  intro i
  rw [updE_get]
  have : ¬ (d ≤ i ∧ i < d) := by omega
  simp [this]

theorem obCells_set : ∀ (L : List OB) (k : Nat) (o : OB) (e : Int), L[k]? = some o → (obCells L).set (k * 4 + 3) (.int .i64 e) = obCells (L.set k { o with e := e })
  | [], k, o, e, h => by simp at h
  | x :: L, 0, o, e, h => by
    simp at h
    subst h
    simp [obCells, OB.cells]
  | x :: L, k + 1, o, e, h => by
    simp at h
    have ih := obCells_set L k o e h
    simp only [List.set_cons_succ, obCells, ← ih]
    rw [List.set_append_right _ _ (by simp [OB.len]; omega), OB.len]
    congr 2
    omega

theorem updE_step (L : List OB) (d m : Nat) (e : Int) (o : OB) (hd : d ≤ m) (h : (updE L d m e)[m]? = some o) : (updE L d m e).set m { o with e := e } = updE L d (m + 1) e := by
  apply List.ext_getElem?
  intro i
  rw [List.getElem?_set, updE_get, updE_get]
  by_cases hi : m = i
  · subst hi
    rw [updE_get] at h
    obtain ⟨o', ho', hoo⟩ := Option.map_eq_some_iff.1 h
    have hm : m < L.length := (List.getElem?_eq_some_iff.1 ho').1
    have h1 : ¬ (d ≤ m ∧ m < m) := by omega
    have h2 : d ≤ m ∧ m < m + 1 := by omega
    rw [if_neg h1] at hoo
    subst hoo
    rw [if_pos rfl, if_pos (by rw [updE_len]; exact hm), ho']
    simp [h2]
  · rw [if_neg hi]
    congr 1
    funext o
    have : (d ≤ i ∧ i < m) ↔ (d ≤ i ∧ i < m + 1) := by omega
    simp only [this]

/-- A paragraph of some lines is open, at place n of the stack L. -/
structure ParaL (w : World) (bp g n cap : Nat) (p : PSt) (L : List OB) (bb gt ct m : Nat) (xs : List ByteArray) : Prop where
  at_ : PsAt w bp p
  stack : p.stack = .slice (some ⟨g, 0, none⟩) (n + 1) cap
  small : n ≤ 1000
  len : L.length = n + 1
  row : w.ownsRow 0 239 4 (.slice (some ⟨g, 0, none⟩) (n + 1) cap) (n + 1) (obCells L)
  top : ∃ o, L[n]? = some o ∧ o.b = .iface 287 (.pointer (some ⟨bb, 0, none⟩))
  blk : Blk w bb #[.slice (some ⟨gt, 0, none⟩) m ct, .pointer none] 291
  txt : w.ownsRow 0 9 1 (.slice (some ⟨gt, 0, none⟩) m ct) m (xs.map .string)

theorem ParaL.cell {w : World} {bp g n cap : Nat} {p : PSt} {L : List OB} {bb gt ct m : Nat} {xs : List ByteArray} (h : ParaL w bp g n cap p L bb gt ct m xs) (k j : Nat) (o : OB) (hk : L[k]? = some o) (hj : j < 4) (u : Value) (hu : o.cells[j]? = some u) :
    w.cell? ⟨g, k * 4 + j, none⟩ = some u := by
  obtain ⟨_, _, he, _, _, hc⟩ := ownsRow_form h.row (by omega)
  cases he
  exact hc (k * 4 + j) u (by rw [obCells_get L k j o hk hj]; exact hu)

theorem ParaL.inPara {w : World} {bp g n cap : Nat} {p : PSt} {L : List OB} {bb gt ct m : Nat} {xs : List ByteArray} (h : ParaL w bp g n cap p L bb gt ct m xs) : InPara w bp g n cap p bb := by
  obtain ⟨o, h1, h2⟩ := h.top
  exact ⟨h.at_, h.stack, h.small, h.cell n 0 o h1 (by omega) _ (by rw [← h2]; rfl)⟩

theorem ParaL.same {w w' : World} {bp g n cap : Nat} {p : PSt} {L : List OB} {bb gt ct m : Nat} {xs : List ByteArray} (h : ParaL w bp g n cap p L bb gt ct m xs) (hm : Same w w') : ParaL w' bp g n cap p L bb gt ct m xs :=
  ⟨h.at_.same hm, h.stack, h.small, h.len, ownsRow_keep h.row hm (fun _ _ x => x), h.top, hm.blk h.blk, ownsRow_keep h.txt hm (fun _ _ x => x)⟩

/-- The last line of one open block is stored. -/
theorem ParaL.setE {w : World} {bp g n cap : Nat} {p : PSt} {L : List OB} {bb gt ct m : Nat} {xs : List ByteArray} (h : ParaL w bp g n cap p L bb gt ct m xs) (k : Nat) (o : OB) (e : Int) (hk : L[k]? = some o) :
    ParaL (w.setCell ⟨g, k * 4 + 3, none⟩ (.int .i64 e)) bp g n cap p (L.set k { o with e := e }) bb gt ct m xs ∧ Mods (fun b => b = g) w (w.setCell ⟨g, k * 4 + 3, none⟩ (.int .i64 e)) ∧
      w.frozen? ⟨g, k * 4 + 3, none⟩ = false ∧ g < w.heap.size := by
  have hkl : k < n + 1 := by have := (List.getElem?_eq_some_iff.1 hk).1; have := h.len; omega
  obtain ⟨_, _, he, ⟨cur, hcur⟩, hfr, _⟩ := ownsRow_form h.row (by omega)
  cases he
  obtain ⟨tail, htl⟩ := id h.at_
  have hgbp : g ≠ bp := hcur.ne_of_type htl (by decide)
  have hgb : g ≠ bb := hcur.ne_of_type h.blk (by decide)
  have hm : Mods (fun b => b = g) w (w.setCell ⟨g, k * 4 + 3, none⟩ (.int .i64 e)) := (Mods.refl (fun b => b = g) w).setCell (p := ⟨g, k * 4 + 3, none⟩) (fun _ => rfl) _
  refine ⟨⟨h.at_.keep hm hgbp.symm, h.stack, h.small, by rw [List.length_set]; exact h.len, ?_, ?_, h.blk.keep hm hgb.symm, ownsRow_keep h.txt hm (fun b hb x => ?_)⟩, hm, hcur.fr _, hcur.lt⟩
  · have := ownsRow_set h.row (k * 4 + 3) (.int .i64 e) (by omega)
    rwa [obCells_set L k o e hk] at this
  · obtain ⟨o2, h1, h2⟩ := h.top
    by_cases hkn : k = n
    · subst hkn
      rw [hk] at h1
      cases h1
      exact ⟨{ o with e := e }, by rw [List.getElem?_set, if_pos rfl, if_pos (by have := h.len; omega)], h2⟩
    · exact ⟨o2, by rw [List.getElem?_set, if_neg hkn]; exact h1, h2⟩
  · cases hb
    exact own_ne h.txt hcur (by decide) (by rw [← x]; rfl)
end Go.Proofs.YtmmopoofheblbaaGreatDoor

/- newPara where a paragraph is open: the line goes on with it: the walk. -/
namespace Go.Proofs.YtmmopoofheblbaaGreatDoor
open Go Go.RowKit Go.Proofs

theorem Blk.own_ne {w : World} {b T g n cap e size : Nat} {cs : Array Value} {xs : List Value} (hb : Blk w b cs T) (h : w.ownsRow 0 e size (.slice (some ⟨g, 0, none⟩) n cap) n xs) (hT : T ≠ e) : b ≠ g := by
  intro he
  exact Go.Proofs.YtmmopoofheblbaaGreatDoor.own_ne h hb hT (by rw [he]; rfl)

set_option maxRecDepth 100000 in
set_option maxHeartbeats 8000000 in
theorem newPara_cont (bp g n cap : Nat) (p : PSt) (L : List OB) (bb gt ct m : Nat) (xs : List ByteArray) (d : Nat) (text : ByteArray) (i : Nat) (nl : Int) (w : World) (h : ParaL w bp g n cap p L bb gt ct m xs) (hd : p.depth = d) (hdn : d ≤ n)
    (hi : i ≤ text.size) (hs : text.size ≤ 1000000) (hO : Opt w p 5 false) (hpp : p.parser ≠ g) (hm0 : 0 < m) (hm6 : m ≤ 100000) :
    Calls Tryz.prog 122 #[.pointer (some ⟨bp, 0, none⟩), LV i text nl] w fun e w' => e = .returned (.tuple #[zeroLV, .bool true]) ∧
      Mods (fun k => k = g ∨ k = bb ∨ k = gt) w w' ∧ ∃ gt' ct', ParaL w' bp g n cap p (updE L d (n + 1) p.lineno) bb gt' ct' (m + 1) (xs ++ [trimL (text.extract i text.size)]) ∧ (gt' = gt ∨ w.heap.size ≤ gt') := by
  have HD := Lib.hid hd
  have HPP := Lib.hid hpp
  have hsm := h.small
  clear hd hpp
  go_enter Tryz.func122, Tryz.ntmps122
  go_wp2_with fail
  generalize hW : ((w.alloc _).alloc _ : World) = W
  have hmA : Same w W := by subst hW; exact ((Mods.refl _ w).alloc _).alloc _
  have hb : LineAt W w.heap.size i text nl := by subst hW; exact (Blk.newAt _ _ rfl).alloc _
  have hr : LineAt W (w.heap.size + 1) 0 ⟨#[]⟩ 0 := by subst hW; exact Blk.newAt _ _ (by simp)
  clear hW
  have h1 := h.same hmA
  have hO1 := hO.keep hmA (fun x => x)
  refine (para_yes bp g n cap p _ W h1.at_ h1.stack (by omega) h1.inPara.top).mono ?_
  rintro e w1 ⟨rfl, n1, rfl⟩
  have k4 := h1.at_.stack
  rw [h1.stack] at k4
  have k5 := h1.at_.depth
  rw [HD.out] at k5
  have e1 : IntKind.i64.wrap ((n : Int) + 1 - 2) = (n : Int) - 1 := by rw [IntWalk.i64_in _ (by omega)]; omega
  go_wp2_with fail
  go_quiet (fail)
  generalize hX : ((W.drewN n1).drewN _ : World) = W2
  have hm1 : Same W W2 := by subst hX; exact ((Mods.refl _ W).drewN _).drewN _
  clear hX k4 k5 e1
  have h2 := h1.same hm1
  have hb2 := Same.blk hm1 hb
  have hr2 := Same.blk hm1 hr
  have hO2 := hO1.keep hm1 (fun x => x)
  have hk := hmA.trans hm1
  clear h1 hb hr hO1 hmA hm1
  go_wp2_with fail
  refine (trimSpaceString_any _ _ _ _ _ hs hi hb2).mono ?_
  rintro e w3 ⟨rfl, n3, rfl⟩
  have hm3 : Same W2 (W2.drewN n3) := (Mods.refl _ W2).drewN _
  generalize W2.drewN n3 = W3 at *
  have h3 := h2.same hm3
  have hr3 := Same.blk hm3 hr2
  have hO3 := hO2.keep hm3 (fun x => x)
  have hk3 := hk.trans hm3
  clear h2 hb2 hr2 hO2 hk hm3
  have o5 := hO3.cell
  have k0 := h3.at_.parser
  have hpl : p.parser < W3.heap.size := World.block_lt_of_cell? _ _ o5
  have hbpl := h3.at_.lt
  have b1 : W3.cell? ⟨bb, 1, none⟩ = some (.pointer none) := h3.blk.cell 1
  have bbl := h3.blk.lt
  go_wp2_with fail
  go_quiet (fail)
  generalize hX : (W3.drewN _ : World) = W4
  have hm4 : Same W3 W4 := by subst hX; exact (Mods.refl _ W3).drewN _
  clear hX o5 k0 hpl hbpl b1 bbl
  have h4 := h3.same hm4
  have hr4 := Same.blk hm4 hr3
  have hk4 := hk3.trans hm4
  clear h3 hr3 hO3 hk3 hm4
  have k5 := h4.at_.depth
  rw [HD.out] at k5
  go_wp2_with fail
  go_loopg [11] (n + 1 - d) (fun k v wr => ∃ j : Nat, v = .int .i64 j ∧ k = n + 1 - j ∧ d ≤ j ∧ j ≤ n + 1 ∧ Mods (fun b => b = g) W4 wr ∧ ParaL wr bp g n cap p (updE L d j p.lineno) bb gt ct m xs)
  case atStart => exact ⟨d, rfl, rfl, Nat.le_refl _, by omega, Mods.refl _ _, by rw [updE_zero]; exact h4⟩
  case round =>
    clear k5
    obtain ⟨j, rfl, hg, hj1, hj2, hmr, hr5⟩ := hrel
    have HG := Lib.hid hg
    clear hg
    have k4 := hr5.at_.stack
    rw [hr5.stack] at k4
    have w1 : IntKind.i64.wrap ((j : Int) + 1) = (j : Int) + 1 := IntWalk.i64_in _ (by omega)
    by_cases hlt : j < n + 1
    · have v1 : (j : Int) < (n : Int) + 1 := by omega
      have v2 : (0 : Int) ≤ j := by omega
      have hjl : j < (updE L d j p.lineno).length := by rw [updE_len]; have := hr5.len; rw [updE_len] at this; omega
      obtain ⟨o, ho⟩ : ∃ o, (updE L d j p.lineno)[j]? = some o := ⟨_, List.getElem?_eq_getElem hjl⟩
      obtain ⟨hset, hmset, hfz, hgl⟩ := hr5.setE j o p.lineno ho
      rw [updE_step L d j p.lineno o hj1 ho] at hset
      have hc3 : wr.cell? ⟨g, j * 4 + 2 + 1, none⟩ = some (.int .i64 o.e) := hr5.cell j 3 o ho (by omega) _ rfl
      have hfz3 : wr.frozen? ⟨g, j * 4 + 2 + 1, none⟩ = false := hfz
      have hset3 : ParaL (wr.setCell ⟨g, j * 4 + 2 + 1, none⟩ (.int .i64 p.lineno)) bp g n cap p (updE L d (j + 1) p.lineno) bb gt ct m xs := hset
      have hmset3 : Mods (fun b => b = g) wr (wr.setCell ⟨g, j * 4 + 2 + 1, none⟩ (.int .i64 p.lineno)) := hmset
      clear hset hmset hfz
      have k3 := hr5.at_.lineno
      have hbpl := hr5.at_.lt
      have HSET := Lib.hid hset3
      have HM := Lib.hid (hmr.trans hmset3)
      clear ho hset3 hmset3 hmr hr5 h4
      go_wp2_with fail
      go_region
      all_goals
        go_wp2_with fail
        go_roundg (n + 1 - (j + 1))
        case measure => have := HG.out; omega
        case rel => exact ⟨j + 1, rfl, rfl, by omega, by omega, HM.out.drew, HSET.out.same ((Mods.refl _ _).drew)⟩
    · have v1 : ¬ (j : Int) < (n : Int) + 1 := by omega
      have hjn : j = n + 1 := by omega
      subst hjn
      have b0 : wr.cell? ⟨bb, 0, none⟩ = some (.slice (some ⟨gt, 0, none⟩) m ct) := hr5.blk.cell 0
      have bf := hr5.blk.fr 0
      have bl := hr5.blk.lt
      have hxl : (xs.map Value.string).length = m := by have := hr5.txt.1; omega
      go_wp2_with (at_builtin; refine ap_str rfl (.tmp 168) (.tmp 170) rfl _ m (xs.map .string) rfl (hr5.txt.alloc _) wr.heap.size 1 (trimL (text.extract i text.size)) rfl ((Blk.newAt (w := wr) _ _ rfl).cell 0) (by omega) ?_)
      intro g6 cap6 w6 hown6 hgrow hloc
      have hne : w.heap.size + 1 ≠ g := hr4.own_ne h4.row (by decide)
      have hr5' := hr4.keep1 hmr hne
      have hm6' : Mods (fun k => k = gt) wr w6 := ((Mods.refl (fun k => k = gt) wr).alloc _).trans ((grown_mods hgrow).mono (fun k _ h => (Option.some.inj h).symm))
      have hB6 := (hr5.blk).keep1 hm6' (hr5.blk.own_ne hr5.txt (by decide))
      have hr6 := hr5'.keep1 hm6' (hr5'.own_ne hr5.txt (by decide))
      have hp6 := hr5.at_.keep hm6' (by
        obtain ⟨tail, htl⟩ := id hr5.at_
        exact htl.own_ne hr5.txt (by decide))
      have hown6s := ownsRow_keep hr5.row hm6' (fun b hb x => by
        cases hb
        obtain ⟨_, _, he, ⟨cur, hcur⟩, _, _⟩ := ownsRow_form hr5.row (by omega)
        cases he
        exact hcur.own_ne hr5.txt (by decide) x)
      have HLOC := Lib.hid hloc
      have HST := Lib.hid hr5.stack
      have HLEN := Lib.hid hr5.len
      have HTOP := Lib.hid hr5.top
      have HM := Lib.hid ((hk4.mono (S' := fun k => k = g ∨ k = bb ∨ k = gt) (fun _ _ h => absurd h (fun x => x))).then (hmr.mono (fun _ _ h => Or.inl h)) (fun _ _ h => h) |>.then (hm6'.mono (S' := fun k => k = g ∨ k = bb ∨ k = gt) (fun _ _ h => Or.inr (Or.inr h))) (fun _ _ h => h))
      have hz := hk4.size
      have hz2 := hmr.size
      clear b0 bf bl hgrow hloc hr5 hr5' hm6' hmr h4 hr4 hk4
      have b0 : w6.cell? ⟨bb, 0, none⟩ = some (.slice (some ⟨gt, 0, none⟩) m ct) := hB6.cell 0
      have bf := hB6.fr 0
      have bl := hB6.lt
      obtain ⟨r0, r1, r2, r3, r4, rf0, rf1, rf2, rf3, rf4, rbl⟩ := LineAt.facts hr6
      have hne : bb ≠ w.heap.size + 1 := hB6.ne_of_type hr6 (by decide)
      go_wp2
      have hL7 : LineAt (w6.setCell ⟨bb, 0, none⟩ (.slice (some ⟨g6, 0, none⟩) (m + 1) cap6)) (w.heap.size + 1) 0 ⟨#[]⟩ 0 := Blk.set_other hr6 (a := ⟨bb, 0, none⟩) hne _
      have hB7 := hB6.set_same 0 (.slice (some ⟨g6, 0, none⟩) (m + 1) cap6)
      have hm7 : Mods (fun k => k = bb ∨ k = w.heap.size + 1) w6 (P5 (w6.setCell ⟨bb, 0, none⟩ (.slice (some ⟨g6, 0, none⟩) (m + 1) cap6)) (w.heap.size + 1) 0 ⟨#[]⟩ 0) :=
        ((Mods.refl (fun k => k = bb ∨ k = w.heap.size + 1) w6).setCell (p := ⟨bb, 0, none⟩) (fun _ => Or.inl rfl) _).trans ((put5 hL7 0 ⟨#[]⟩ 0).1.mono (fun _ _ h => Or.inr h))
      obtain ⟨tail, htl⟩ := id hp6
      refine bodyPost_ret (v := .tuple #[zeroLV, .bool true]) (by simp [results, Tryz.results122, go_sem, r0, r1, r2, r3, r4]) rfl ⟨rfl, ?_, g6, cap6, ⟨hp6.keep hm7 ?_, HST.out, hsm, HLEN.out, ?_, HTOP.out, ?_, ?_⟩, ?_⟩
      · exact HM.out.then hm7 (fun b hb h => by
          rcases h with h | h
          · exact Or.inr (Or.inl h)
          · omega)
      · intro h
        rcases h with h | h
        · exact htl.ne_of_type hB6 (by decide) h
        · exact htl.ne_of_type hr6 (by decide) h
      · exact ownsRow_keep hown6s hm7 (fun b hb x => by
          cases hb
          rcases x with x | x
          · exact hB6.own_ne hown6s (by decide) x.symm
          · exact hr6.own_ne hown6s (by decide) x.symm)
      · exact hB7.keep1 (put5 hL7 0 ⟨#[]⟩ 0).1 hne
      · rw [List.map_append]
        exact ownsRow_keep hown6 hm7 (fun b hb x => by
          cases hb
          rcases x with x | x
          · exact hB6.own_ne hown6 (by decide) x.symm
          · exact hr6.own_ne hown6 (by decide) x.symm)
      · rcases HLOC.out with h | h
        · exact Or.inl (Option.some.inj h).symm
        · right; omega
end Go.Proofs.YtmmopoofheblbaaGreatDoor

/- addLine: the first line of a paragraph, where a trial may set the state's corner. -/
namespace Go.Proofs.YtmmopoofheblbaaGreatDoor
open Go Go.RowKit Go.Proofs

/-- None of the eight functions begins a block with this line; one may set the corner. -/
def TriesNoC (bp g cap : Nat) (p : PSt) (T : Nat) (v : Value) (text : ByteArray) (nl : Int) : Prop :=
  ∀ c W, NoPara W bp g 0 cap { p with corner := c } T v → ∀ f ∈ [164, 165, 166, 167, 168, 169, 170, 171],
    Calls Tryz.prog f #[.pointer (some ⟨bp, 0, none⟩), LV 0 text nl] W fun e w' => e = .returned (.tuple #[LV 0 text nl, .bool false]) ∧ Mods (fun k => k = bp) W w' ∧ ∃ c', PsAt w' bp { p with corner := c' }

theorem NoPara.corner {w w' : World} {bp g cap : Nat} {p : PSt} {T : Nat} {v : Value} {c c' : Bool} (h : NoPara w bp g 0 cap { p with corner := c } T v) (hm : Mods (fun k => k = bp) w w') (hp : PsAt w' bp { p with corner := c' }) (hg : g ≠ bp) :
    NoPara w' bp g 0 cap { p with corner := c' } T v :=
  ⟨hp, h.stack, h.small, (World.cell?_of_block (hm.block g (World.block_lt_of_cell? _ _ h.top) hg)).trans h.top, h.other⟩

set_option maxRecDepth 100000 in
set_option maxHeartbeats 4000000 in
theorem addLine_firstC (bp g cap : Nat) (p : PSt) (T : Nat) (v : Value) (l : List Value) (text : ByteArray) (nl : Int) (w : World) (h : NoPara w bp g 0 cap p T v)
    (hs : text.size ≤ 1000000) (hbl : blankAt text 0 = false) (hO : Opt w p 5 false) (hown : w.ownsRow 0 239 4 p.stack 1 l) (hp51 : p.parser ≠ bp)
    (hN : TriesNoC bp g cap { p with depth := 0 } T v text nl) :
    Calls Tryz.prog 89 #[.pointer (some ⟨bp, 0, none⟩), LV 0 text nl] w fun e w' => e = .returned (.tuple #[]) ∧ ∃ c, ParaNew w w' bp { p with depth := 0, corner := c } 0 l (trimL (text.extract 0 text.size)) := by
  have k5 := h.at_.depth
  have f5 := h.at_.fr 5
  have hbpl := h.at_.lt
  go_enter Tryz.func89, Tryz.ntmps89
  go_wp2
  go_step3
  go_wp2
  generalize hW : (World.alloc _ _ : World) = W
  have hp0 : PsAt W bp { p with depth := 0 } := by subst hW; exact PsAt.alloc (h.at_.set 5 _ { p with depth := 0 } rfl (by decide)) _
  have hm0 : Mods (fun k => k = bp) w W := by subst hW; exact ((Mods.refl (fun k => k = bp) w).setCell (p := ⟨bp, 5, none⟩) (fun _ => rfl) _).alloc _
  have hbk : LineAt W w.heap.size 0 text nl := by subst hW; exact Blk.newAt _ _ (by simp)
  clear hW
  obtain ⟨tail, htl⟩ := id h.at_
  obtain ⟨_, _, he, ⟨cur, hcur⟩, _, _⟩ := ownsRow_form (h.stack ▸ hown) (by omega)
  cases he
  have hgbp : g ≠ bp := hcur.ne_of_type htl (by decide)
  have h0 : NoPara W bp g 0 cap { p with depth := 0 } T v := ⟨hp0, h.stack, h.small, (World.cell?_of_block (hm0.block g (World.block_lt_of_cell? _ _ h.top) hgbp)).trans h.top, h.other⟩
  have hown0 : W.ownsRow 0 239 4 p.stack 1 l := ownsRow_keep hown hm0 (by rw [h.stack]; intro k hk; cases hk; exact hgbp)
  have hO0 : Opt W p 5 false := hO.keep hm0 hp51
  have hpst := h.stack
  have k4 : W.cell? ⟨bp, 4, none⟩ = some (.slice (some ⟨g, 0, none⟩) 1 cap) := by have := hp0.stack; rw [h.stack] at this; exact this
  have k5' := hp0.depth
  have HPS := Lib.hid hpst
  clear k5 f5 hbpl hcur htl hpst
  go_loopg [] 0 (fun g wr => W = wr)
  case atStart => rfl
  case round =>
    subst hrel
    go_wp2_with fail
    go_quiet (fail)
    generalize hX : (W.drewN _ : World) = W1
    have hm1 : Same W W1 := by subst hX; exact (Mods.refl _ W).drewN _
    clear hX k4 k5'
    have hbk1 := Same.blk hm1 hbk
    go_wp2_with fail
    refine (isBlank_any _ _ _ _ _ hs (by omega) hbk1).mono ?_
    rintro e w2 ⟨rfl, n2, rfl⟩
    rw [show (trimL (text.extract 0 text.size)).toList.isEmpty = false from hbl]
    have hm2 : Same W (W1.drewN n2) := hm1.drewN _
    generalize W1.drewN n2 = W2 at *
    have hbk2 := Same.blk hm2 hbk
    clear hm1 hbk1 hbl
    go_wp2_with fail
    go_step3
    go_wp2_with fail
    refine (news_any _).mono ?_
    rintro e w3 ⟨nb, rfl, hm3, hnb⟩
    have hm4 := hm2.trans hm3
    have hbk3 := Same.blk hm3 hbk2
    have h3 : NoPara w3 bp g 0 cap { ({ p with depth := 0 } : PSt) with corner := p.corner } T v := h0.same hm4
    obtain ⟨tl3, htl3⟩ := id h3.at_
    have hbkn : w.heap.size ≠ bp := hbk3.ne_of_type htl3 (by decide)
    have hnbn : nb ≠ bp := hnb.ne_of_type htl3 (by decide)
    clear hm2 hbk2 htl3
    go_wp2
    go_loopg [88] 8 (fun gg j wr => ∃ k : Nat, gg = 8 - k ∧ j = .int .i64 k ∧ k ≤ 8 ∧ Mods (fun k => k = bp) w3 wr ∧ ∃ c, NoPara wr bp g 0 cap { ({ p with depth := 0 } : PSt) with corner := c } T v)
    case atStart => exact ⟨0, rfl, rfl, by omega, Mods.refl _ _, _, h3⟩
    case round =>
      clear h3
      obtain ⟨k, hg, rfl, hk8, hr5, c, h5⟩ := hrel
      have hbk5 := hbk3.keep1 hr5 hbkn
      have hnb5 := hnb.keep1 hr5 hnbn
      obtain ⟨g0, g1, g2, g3, g4, gf0, gf1, gf2, gf3, gf4, gbl⟩ := LineAt.facts hbk5
      have hcases : k = 0 ∨ k = 1 ∨ k = 2 ∨ k = 3 ∨ k = 4 ∨ k = 5 ∨ k = 6 ∨ k = 7 ∨ k = 8 := by omega
      rcases hcases with rfl | rfl | rfl | rfl | rfl | rfl | rfl | rfl | rfl
      · have n0 : wr.cell? ⟨nb, 0, none⟩ = some (.func (.func 164) #[] #[]) := hnb5.cell 0
        go_wp2_with fail
        refine (hN c wr h5 164 (by simp)).mono ?_
        rintro e w6 ⟨rfl, hm6, c6, hp6⟩
        clear n0 g0 g1 g2 g3 g4 gf0 gf1 gf2 gf3 gf4 gbl
        have h6 := h5.corner hm6 hp6 hgbp
        go_wp2
        go_roundg 7
        case measure => omega
        case rel => exact ⟨1, rfl, rfl, by omega, (hr5.trans hm6).alloc _, c6, h6.same ((Mods.refl _ w6).alloc _)⟩
      · have n0 : wr.cell? ⟨nb, 1, none⟩ = some (.func (.func 165) #[] #[]) := hnb5.cell 1
        go_wp2_with fail
        refine (hN c wr h5 165 (by simp)).mono ?_
        rintro e w6 ⟨rfl, hm6, c6, hp6⟩
        clear n0 g0 g1 g2 g3 g4 gf0 gf1 gf2 gf3 gf4 gbl
        have h6 := h5.corner hm6 hp6 hgbp
        go_wp2
        go_roundg 6
        case measure => omega
        case rel => exact ⟨2, rfl, rfl, by omega, (hr5.trans hm6).alloc _, c6, h6.same ((Mods.refl _ w6).alloc _)⟩
      · have n0 : wr.cell? ⟨nb, 2, none⟩ = some (.func (.func 166) #[] #[]) := hnb5.cell 2
        go_wp2_with fail
        refine (hN c wr h5 166 (by simp)).mono ?_
        rintro e w6 ⟨rfl, hm6, c6, hp6⟩
        clear n0 g0 g1 g2 g3 g4 gf0 gf1 gf2 gf3 gf4 gbl
        have h6 := h5.corner hm6 hp6 hgbp
        go_wp2
        go_roundg 5
        case measure => omega
        case rel => exact ⟨3, rfl, rfl, by omega, (hr5.trans hm6).alloc _, c6, h6.same ((Mods.refl _ w6).alloc _)⟩
      · have n0 : wr.cell? ⟨nb, 3, none⟩ = some (.func (.func 167) #[] #[]) := hnb5.cell 3
        go_wp2_with fail
        refine (hN c wr h5 167 (by simp)).mono ?_
        rintro e w6 ⟨rfl, hm6, c6, hp6⟩
        clear n0 g0 g1 g2 g3 g4 gf0 gf1 gf2 gf3 gf4 gbl
        have h6 := h5.corner hm6 hp6 hgbp
        go_wp2
        go_roundg 4
        case measure => omega
        case rel => exact ⟨4, rfl, rfl, by omega, (hr5.trans hm6).alloc _, c6, h6.same ((Mods.refl _ w6).alloc _)⟩
      · have n0 : wr.cell? ⟨nb, 4, none⟩ = some (.func (.func 168) #[] #[]) := hnb5.cell 4
        go_wp2_with fail
        refine (hN c wr h5 168 (by simp)).mono ?_
        rintro e w6 ⟨rfl, hm6, c6, hp6⟩
        clear n0 g0 g1 g2 g3 g4 gf0 gf1 gf2 gf3 gf4 gbl
        have h6 := h5.corner hm6 hp6 hgbp
        go_wp2
        go_roundg 3
        case measure => omega
        case rel => exact ⟨5, rfl, rfl, by omega, (hr5.trans hm6).alloc _, c6, h6.same ((Mods.refl _ w6).alloc _)⟩
      · have n0 : wr.cell? ⟨nb, 5, none⟩ = some (.func (.func 169) #[] #[]) := hnb5.cell 5
        go_wp2_with fail
        refine (hN c wr h5 169 (by simp)).mono ?_
        rintro e w6 ⟨rfl, hm6, c6, hp6⟩
        clear n0 g0 g1 g2 g3 g4 gf0 gf1 gf2 gf3 gf4 gbl
        have h6 := h5.corner hm6 hp6 hgbp
        go_wp2
        go_roundg 2
        case measure => omega
        case rel => exact ⟨6, rfl, rfl, by omega, (hr5.trans hm6).alloc _, c6, h6.same ((Mods.refl _ w6).alloc _)⟩
      · have n0 : wr.cell? ⟨nb, 6, none⟩ = some (.func (.func 170) #[] #[]) := hnb5.cell 6
        go_wp2_with fail
        refine (hN c wr h5 170 (by simp)).mono ?_
        rintro e w6 ⟨rfl, hm6, c6, hp6⟩
        clear n0 g0 g1 g2 g3 g4 gf0 gf1 gf2 gf3 gf4 gbl
        have h6 := h5.corner hm6 hp6 hgbp
        go_wp2
        go_roundg 1
        case measure => omega
        case rel => exact ⟨7, rfl, rfl, by omega, (hr5.trans hm6).alloc _, c6, h6.same ((Mods.refl _ w6).alloc _)⟩
      · have n0 : wr.cell? ⟨nb, 7, none⟩ = some (.func (.func 171) #[] #[]) := hnb5.cell 7
        go_wp2_with fail
        refine (hN c wr h5 171 (by simp)).mono ?_
        rintro e w6 ⟨rfl, hm6, c6, hp6⟩
        clear n0 g0 g1 g2 g3 g4 gf0 gf1 gf2 gf3 gf4 gbl
        have h6 := h5.corner hm6 hp6 hgbp
        go_wp2
        go_roundg 0
        case measure => omega
        case rel => exact ⟨8, rfl, rfl, by omega, (hr5.trans hm6).alloc _, c6, h6.same ((Mods.refl _ w6).alloc _)⟩
      · have hmW : Mods (fun k => k = bp) W wr := (hm4.mono (fun _ _ h => absurd h (fun x => x))).trans hr5
        have hown5 := ownsRow_keep hown0 hmW (by rw [HPS.out]; intro k hk; cases hk; exact hgbp)
        have hO5 : Opt wr { ({ p with depth := 0 } : PSt) with corner := c } 5 false := hO0.keep hmW hp51
        go_wp2_with fail
        refine (newPara_first bp g 0 cap { ({ p with depth := 0 } : PSt) with corner := c } T v l text 0 nl wr h5 rfl (by omega) (by omega) hs hO5 hown5).mono ?_
        rintro e w6 ⟨rfl, hpn⟩
        go_wp2
        try rw [Exit.noGoto_normal]
        go_end0
        refine ⟨rfl, c, ?_, ?_⟩
        · exact ((hm0.trans hmW).mono (fun _ _ h => Or.inl h)).trans hpn.mods
        · obtain ⟨g6, cap6, bb, tv, x1, x2, x3, x4, x5, x6, x7⟩ := hpn.ex
          exact ⟨g6, cap6, bb, tv, x1, x2, x3, x4, by have := hm0.size; have := hmW.size; omega, fun hlt => x6 (by have := hm0.size; have := hmW.size; omega), fun k hk => by have := x7 k hk; have := hm0.size; have := hmW.size; omega⟩
end Go.Proofs.YtmmopoofheblbaaGreatDoor
