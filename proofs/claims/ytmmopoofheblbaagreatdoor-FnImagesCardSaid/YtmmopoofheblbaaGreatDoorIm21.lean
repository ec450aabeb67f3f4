/- Some texts of one proof, put into one file: InE2, Img3, Img4, LawI, Frame. -/
import Derived.Test.YtmmopoofheblbaaGreatDoorRows
import Derived.WalkKit
import Derived.ProofKit
import Derived.OpenShut
import Derived.ShutString
import Derived.LaidMore
import Derived.LaidHandle
import Derived.LaidLaws
import Derived.Test.YtmmopoofheblbaaGreatDoorIm1
import Derived.Test.YtmmopoofheblbaaGreatDoorIm8
import Derived.Test.YtmmopoofheblbaaGreatDoorIm15
import Derived.Test.YtmmopoofheblbaaGreatDoorIm17
import Derived.Test.YtmmopoofheblbaaGreatDoorIm20
/- inline on any text: the whole function. -/
namespace Go.Proofs.YtmmopoofheblbaaGreatDoor.T
open Go Go.RowKit Go.Proofs

/-- Behind the loop: the list l stands in the block g. -/
structure MidT (w W : World) (bp : Nat) (p : PSt) (t : ByteArray) (c : Bool) (l : List Inl) (g n cap : Nat) : Prop where
  at_ : ∃ lv, PsAt W bp { p with corner := c, s := t, list := lv, emitted := ((t.size : Nat) : Int) }
  mods : Mods (fun k => k = bp) w W
  row : ∃ ys, n = ys.length ∧ W.ownsRow 0 157 1 (.slice (some ⟨g, 0, none⟩) n cap) n ys ∧ InlsAt (fun b => b = g) W l ys
  new : w.heap.size ≤ g

theorem MidT.keep {w W W' : World} {bp : Nat} {p : PSt} {t : ByteArray} {c : Bool} {l : List Inl} {g n cap : Nat} (h : MidT w W bp p t c l g n cap) (hm : Mods (fun k => k = bp) W W') (hp : ∃ lv, PsAt W' bp { p with corner := c, s := t, list := lv, emitted := ((t.size : Nat) : Int) }) : MidT w W' bp p t c l g n cap := by
  obtain ⟨_, hp0⟩ := h.at_
  obtain ⟨ys, h1, h2, h3⟩ := h.row
  refine ⟨hp, h.mods.then hm (fun _ _ x => x), ⟨ys, h1, ownsRow_keep h2 hm (fun k hk x => own_ne_ps h2 hp0 (by decide) (by rw [← x]; exact hk)), ?_⟩, h.new⟩
  refine h3.keep hm (fun b cs T hb hT x => ?_) (fun _ hb => Or.inl hb)
  have := ps_ty hp0 hb x
  rw [this] at hT
  exact absurd hT (by decide)
theorem MidT.set9 {w W : World} {bp : Nat} {p : PSt} {t : ByteArray} {c : Bool} {l : List Inl} {g n cap : Nat} (h : MidT w W bp p t c l g n cap) (v : Value) : MidT w (W.setCell ⟨bp, 9, none⟩ v) bp p t c l g n cap ∧ (W.setCell ⟨bp, 9, none⟩ v).cell? ⟨bp, 9, none⟩ = some v := by
  obtain ⟨lv, hp0⟩ := h.at_
  have h1 := hp0.set 9 v { p with corner := c, s := t, list := v, emitted := ((t.size : Nat) : Int) } rfl (by decide)
  exact ⟨h.keep ((Mods.refl (fun k => k = bp) W).setCell (p := ⟨bp, 9, none⟩) (fun _ => rfl) _) ⟨v, h1⟩, h1.list⟩

set_option maxRecDepth 100000 in
set_option maxHeartbeats 16000000 in
theorem inline_any (st : Bool) (LK : World → PSt → Prop) (bp : Nat) (p : PSt) (s t : ByteArray) (w : World) (hp : PsAt w bp p) (ht : t.size ≤ 900000) (ht0 : 0 < t.size) (hO : OptS w p st) (hpb : p.parser ≠ bp) (hLK : ∀ W q, Mods (fun k => k = bp) w W → q.links = p.links → LK W q)
    (hT : Calls Tryz.prog 100 #[.string s] w fun e w' => e = .returned (.string t) ∧ w = w')
    (hcf : ∀ c fn, pOf st c = some fn → ∀ (args : Array Value) (W : World), (callFunc fn args).run Tryz.prog W = .ok (.enter fn args) W) (out : List Sr) (hR : Runs st LK t ⟨0, 0, [], [], 0⟩ out) (hout : out ≠ []) (hok : ∀ x, x ∈ emphM out → PlOk x) (hsz : totalT (emphM out) ≤ 1000000) :
    Calls Tryz.prog 83 #[.pointer (some ⟨bp, 0, none⟩), .string s] w fun e w' => ∃ g n cap c, e = .returned (.slice (some ⟨g, 0, none⟩) n cap) ∧ MidT w w' bp p t c (mergeM (emphM out)) g n cap := by
  have hl := hp.lt
  have f7 := hp.fr 7
  have f8 := hp.fr 8
  have f9 := hp.fr 9
  have k7 := hp.s
  have k8 := hp.emitted
  have k9 := hp.list
  have HO := Lib.hid hO
  have HLK := Lib.hid hLK
  have HCF := Lib.hid hcf
  have HR := Lib.hid hR
  have HOK := Lib.hid hok
  have HSZ := Lib.hid hsz
  have HNE := Lib.hid hout
  clear hO hLK hcf hR hok hsz hout
  go_enter Tryz.func83, Tryz.ntmps83
  go_wp2_with fail
  refine hT.mono ?_
  rintro e w' ⟨rfl, rfl⟩
  go_wp2_with fail
  generalize hW : (World.setCell _ _ _ : World) = W
  have hpW : PsAt W bp { p with s := t, list := .slice none 0 0, emitted := 0 } := by
    subst hW
    exact ((hp.set 7 (.string t) { p with s := t } rfl (by decide)).set 9 (.slice none 0 0) { p with s := t, list := .slice none 0 0 } rfl (by decide)).set 8 (.int .i64 0) _ rfl (by decide)
  have hmW : Mods (fun k => k = bp) w W := by
    subst hW
    exact (((Mods.refl (fun k => k = bp) w).setCell (p := ⟨bp, 7, none⟩) (fun _ => rfl) _).setCell (p := ⟨bp, 9, none⟩) (fun _ => rfl) _).setCell (p := ⟨bp, 8, none⟩) (fun _ => rfl) _
  have hS0 : ISt NoB w W bp { p with corner := p.corner } t 0 (.slice none 0 0) [] [] :=
    ⟨hmW, hpW, ⟨rfl, Or.inl ⟨rfl, rfl⟩⟩, ⟨rfl, fun j _ _ h => (by simp at h), List.nodup_nil, fun m h => (by cases h), fun b hb => (by rcases hb with hb | hb <;> cases hb), fun j _ _ h => (by simp at h)⟩, fun g hg => (by cases hg), fun m h => (by cases h), fun x => x⟩
  clear hW hT f7 f8 f9 k7 k8 k9
  refine i_loop st LK w bp p t false ht HO.out hpb HLK.out HCF.out out ⟨0, 0, [], [], 0⟩ HR.out ⟨Nat.le_refl _, Nat.zero_le _, Nat.le_refl _, Nat.le_refl _, fun _ h => (by cases h), List.Pairwise.nil⟩ _ ?_ _ W p.corner (.slice none 0 0) (.slice none 0 0) [] [] ⟨⟨fun d => cond (Nat.ble 21 d && Nat.ble d 32) (List.getD [_, _, _, _, _, _, _, _, _, _, _, _] (d - 21) undef) undef, rfl⟩, hS0, ⟨⟨rfl, Or.inl ⟨rfl, rfl⟩⟩, fun g h => (by cases h)⟩, rfl⟩
  rintro a' w' c ov last e lv xs l ⟨v, rfl⟩ hS he hle her
  have HER := Lib.hid her
  have hxl := hS.src.len
  clear her hS0 hmW hpW
  go_wp2_with fail
  refine (hS.emit t.size he (Nat.le_refl _) (by omega) (by omega)).mono ?_
  rintro e' wB ⟨rfl, lv', xs', hmB, hB⟩
  have hlen := hB.src.len
  have hll : (l ++ plainS t e t.size).length ≤ t.size := by
    rw [List.length_append]
    have := plainS_len t e t.size he
    omega
  have hn0 : 0 < xs'.length := by
    rw [← hlen, ← List.length_map (f := Sr.er), HER.out]
    exact List.length_pos_iff.2 HNE.out
  obtain ⟨gl, cap, rfl, hcap', _, cur, hcur, _⟩ := row_shape hB.row hn0
  have hem : emphM (l ++ plainS t e t.size) = emphM out := by rw [← HER.out, emphM_er]
  have hfr := (hB.fresh gl rfl).1
  have hpl9 : p.parser < w.heap.size := World.block_lt_of_cell? _ _ HO.out.k3.cell
  have HE : ∀ W, Same wB W → Calls Tryz.prog 117 #[.pointer (some ⟨bp, 0, none⟩), .slice (some ⟨gl, 0, none⟩) 0 cap, .slice (some ⟨gl, 0, none⟩) xs'.length cap] W fun e W' => ∃ g2 n2 cap2, e = .returned (.slice (some ⟨g2, 0, none⟩) n2 cap2) ∧ MidT w W' bp p t c (emphM out) g2 n2 cap2 ∧ 0 < n2 ∧ n2 ≤ t.size ∧
      (∃ v, W'.cell? ⟨bp, 9, none⟩ = some v) ∧ W'.frozen? ⟨bp, 9, none⟩ = false ∧ bp < W'.heap.size := by
    intro W hW
    have hBW := hB.same hW
    refine (emph_any (fun _ => False) W true gl 0 cap xs'.length cap xs' (l ++ plainS t e t.size) (.pointer (some ⟨bp, 0, none⟩)) (some ⟨gl, 0, none⟩) cap hlen hn0 (by omega) ?_ ?_ (Or.inl ⟨rfl, rfl, rfl⟩)).mono ?_
    · refine ⟨hBW.src.len, fun j t' x h1 h2 => (hBW.src.at_ j t' x h1 h2).keep (Mods.refl (fun _ => False) W) (fun _ _ _ _ _ x => absurd x (fun x => x)) ?_ (fun _ _ x => x), hBW.src.nodup, fun m hm ha => hBW.src.out m hm ?_, fun b hb => hBW.src.a0 b ?_, hBW.src.adj⟩
      · rintro b ((hb | hb) | hb)
        · exact absurd hb (fun x => x)
        · obtain ⟨_, rfl⟩ := hb
          exact Or.inl (Or.inl (Or.inl rfl))
        · exact Or.inl (Or.inr hb)
      · rcases ha with ha | ⟨_, rfl⟩
        · exact absurd ha (fun x => x)
        · exact Or.inl rfl
      · rcases hb with hb | ⟨_, rfl⟩
        · exact absurd hb (fun x => x)
        · exact Or.inl rfl
    · refine ⟨rfl, ?_, fun _ => ⟨rfl, Nat.le_refl _, rfl, xs', hBW.row, rfl, fun _ _ => rfl⟩, fun h => (by cases h)⟩
      exact row_take hBW.row (Nat.zero_le _) hn0
    · rintro e2 W' ⟨g, dc, ys, rfl, h1, h2, h3, h4, h5, h6⟩
      have hpos : PsAt W' bp { ({ p with corner := c } : PSt) with s := t, list := .slice (some ⟨gl, 0, none⟩) xs'.length cap, emitted := ((t.size : Nat) : Int) } := by
        refine hBW.at_.keep h4 (fun hx => ?_)
        rcases hx with hx | ⟨_, hx⟩
        · obtain ⟨_, cs, hb⟩ := hBW.src.live_lt bp hx
          have := ps_ty hBW.at_ hb rfl
          exact absurd this (by decide)
        · exact own_ne_ps hBW.row hBW.at_ (by decide) (by rw [hx]; rfl)
      refine ⟨g, ys.length, dc, rfl, ⟨⟨_, hpos⟩, ?_, ⟨ys, rfl, h5, ?_⟩, ?_⟩, h1, by omega, ⟨_, hpos.list⟩, hpos.fr 9, hpos.lt⟩
      · refine hBW.mods.then h4 (fun b hb hx => ?_)
        rcases hx with hx | ⟨_, rfl⟩
        · have := hBW.new b hx
          omega
        · omega
      · rw [hem] at h6
        exact h6.mono (fun b hb => Or.inl (Or.inr hb))
      · have := hB.mods.size
        have := hW.size
        rcases h3 with ⟨_, rfl, _⟩ | h3
        · exact hfr
        · omega
  have k9 := hB.at_.list
  have f9 := hB.at_.fr 9
  have hl9 := hB.at_.lt
  have hcap : (0 : Int) ≤ cap := by omega
  have hS0 : Same wB wB := Mods.refl _ _
  clear hS hmB
  go_wp2_with fail
  go_region_with ((go_at_call 117; refine (HE _ (by repeat (first | assumption | apply Mods.drew))).mono ?_; rintro e' wC ⟨g2, n2, cap2, rfl, hMC, hn2, hn2', ⟨v9, k9'⟩, f9', hl9'⟩))
  all_goals
    obtain ⟨hMD, k9D⟩ := hMC.set9 (.slice (some ⟨g2, 0, none⟩) n2 cap2)
    obtain ⟨_, hpD⟩ := hMD.at_
    generalize (World.setCell wC _ _ : World) = wD at hMD k9D hpD ⊢
    clear k9' f9' hl9' k9 f9 hl9 hMC
    have f9 := hpD.fr 9
    have hl9 := hpD.lt
    obtain ⟨ys, hys, hrD, hID⟩ := hMD.row
    have HM1 := Lib.hid (merge_any (fun _ => False) wD (.pointer (some ⟨bp, 0, none⟩)) g2 n2 cap2 ys (emphM out) hn2 (by omega) hrD (fun _ h => absurd h (fun x => x)) (hID.mono (fun b hb => Or.inl (hb.elim (fun x => absurd x (fun x => x)) (fun x => x)))) HOK.out HSZ.out)
    clear hpD hrD hID hys
    go_wp2_with fail
    refine HM1.out.mono ?_
    rintro e' wE ⟨ys3, rfl, hmE, hrE, hIE⟩
    have hg2 : g2 ≠ bp := by
      obtain ⟨lvx, hpx⟩ := hMD.at_
      obtain ⟨ysx, _, hrx, _⟩ := hMD.row
      exact fun x => own_ne_ps hrx hpx (by decide) (by rw [x]; rfl)
    have hpE := hMD.at_.choose_spec.keep hmE (fun x => hg2 x.symm)
    have hME : MidT w wE bp p t c (mergeM (emphM out)) g2 ys3.length cap2 := ⟨⟨_, hpE⟩, hMD.mods.then hmE (fun b hb x => by have := hMD.new; omega), ⟨ys3, rfl, hrE, hIE.mono (fun b hb => Or.inl (Or.inr hb))⟩, hMD.new⟩
    clear f9 hl9 k9D hmE hrE hIE
    have k9 := hpE.list
    have f9 := hpE.fr 9
    have hl9 := hpE.lt
    obtain ⟨hMF, k9F⟩ := hME.set9 (.slice (some ⟨g2, 0, none⟩) ys3.length cap2)
    clear hpE
    go_wp2_with fail
    obtain ⟨_, hpF⟩ := hMF.at_
    generalize (World.setCell wE _ _ : World) = wF at hMF k9F hpF ⊢
    have hOF : Opt wF { p with corner := c } 3 false := (HO.out.k3).keep hMF.mods hpb
    refine (autoLinkText_off bp _ _ wF hpF hOF).mono ?_
    rintro e' wG ⟨rfl, rfl⟩
    clear k9 f9 hl9
    have f9 := hpF.fr 9
    have hl9 := hpF.lt
    obtain ⟨hMG, k9G⟩ := hMF.set9 (.slice (some ⟨g2, 0, none⟩) ys3.length cap2)
    clear hpF
    go_wp2_with fail
    go_ret
    exact ⟨g2, ys3.length, cap2, c, rfl, hMG⟩
end Go.Proofs.YtmmopoofheblbaaGreatDoor.T

/- Images within images: what inline makes of them, and its HTML. -/
namespace Go.Proofs.YtmmopoofheblbaaGreatDoor.T
open Go Go.RowKit Go.Proofs

theorem p_enters (st : Bool) : ∀ c fn, pOf st c = some fn → ∀ (args : Array Value) (W : World), (callFunc fn args).run Tryz.prog W = .ok (.enter fn args) W := by
  intro c fn h
  unfold pOf at h
  repeat' split at h
  all_goals first
    | (cases h; done)
    | (cases h; intro args W; kernel_rfl)

theorem text_wrap (a : ByteArray) (ha : a.size ≤ 1000000) : ∀ (us : List ByteArray) (x : Inl), textO x = some (escN a a.size) → textO (wrapI us x) = some (escN a a.size)
  | [], _, h => h
  | u :: us, x, h => by
    refine text_wrap a ha us _ ?_
    unfold linkI textO
    have h1 : textsO [x] = some [escN a a.size] := by
      unfold textsO
      rw [h]
      rfl
    rw [if_pos ⟨rfl, Nat.one_pos, (by show 1 ≤ 1000000; omega)⟩, h1]
    simp
theorem wrap_snoc (d : ByteArray) : ∀ (us : List ByteArray) (x : Inl), wrapI (us ++ [d]) x = linkI true d ⟨#[]⟩ 0 false [wrapI us x]
  | [], _ => rfl
  | _ :: us, _ => wrap_snoc d us _

theorem optS_of {o : G.Op} {w : World} {pp : Nat} (h : G.Opts o w pp) (hq : o.quote = false) {p : PSt} (hp : p.parser = pp) : OptS w p o.strike :=
  ⟨(h.op hp).s, h.opt hp 3 (by omega) (by omega) (by omega), h.opt hp 6 (by omega) (by omega) (by omega), h.opt hp 7 (by omega) (by omega) (by omega), h.opt hp 8 (by omega) (by omega) (by omega), hq ▸ (h.op hp).q⟩

/-- inline on a text whose run ends in one tree that is no plain text. -/
theorem inl_tree (o : G.Op) (hq : o.quote = false) (pp : Nat) (s : ByteArray) (hs : OneLn s) (x : Inl) (hx : x.ty ≠ 224 ∧ x.ty ≠ 266 ∧ x.ty ≠ 228) (hR : Runs o.strike (fun _ _ => True) s ⟨0, 0, [], [], 0⟩ [.fin x]) (out : List UInt8) (hO : HtmlO x out) : G.InlOf o pp s out := by
  intro bp W q hqq hOp hpp hne
  have hpl : plainT x = none := by
    cases hp : plainT x with
    | none => rfl
    | some t =>
      obtain ⟨ty, rfl, h⟩ := plainT_some hp
      rcases h with h | h
      · exact absurd h hx.1
      · exact absurd h hx.2.1
  refine (inline_any o.strike (fun _ _ => True) bp q s s W hqq hs.small hs.pos (optS_of hOp hq hpp) (by rw [hpp]; exact hne) (fun _ _ _ _ => trivial) (trimSpaceTab_id _ W (by have := hs.small; omega) hs.pos hs.first hs.last) (p_enters _) [.fin x] hR (by simp) ?_ ?_).mono ?_
  · intro y hy
    have : y = x := by simpa [emphM, emDst, emStep, Dt.inl] using hy
    subst this
    exact Or.inr hx
  · have : totalT (emphM [.fin x]) = 0 := by simp [emphM, emDst, emStep, Dt.inl, totalT, hpl]; rfl
    omega
  · rintro e w' ⟨g, n, cap, c, rfl, hM⟩
    have hmm : mergeM (emphM [.fin x]) = [x] := by simp [emphM, emDst, emStep, Dt.inl, mergeM, mergeGo, hpl, flushM]
    obtain ⟨ys, hn, hr, hI⟩ := hM.row
    rw [hmm] at hI
    obtain ⟨lv, hp'⟩ := hM.at_
    match ys, hI with
    | [y], hI =>
      simp only [InlsAt] at hI
      obtain ⟨b, T, rfl, _⟩ := hI.1.val
      refine ⟨g, n, cap, c, rfl, ⟨hM.mods, lv, _, hp'⟩, by rw [hn]; simp, by rw [hn]; simp, _, [out], hr, .tree hI.1 hO .nil, by simp⟩
    | [], hI => simp only [InlsAt] at hI
    | _ :: _ :: _, hI => simp only [InlsAt] at hI; exact hI.2.elim

/-- Images within images. -/
theorem inl_images (o : G.Op) (hq : o.quote = false) (pp : Nat) (t a d : ByteArray) (us : List ByteArray) (hs : OneLn t) (h : t.data.toList = opensL (us.length + 1) ++ a.data.toList ++ closeL (us ++ [d])) (ha0 : 0 < a.size) (ha6 : a.size ≤ 1000000) (ha : ∀ c, c ∈ a.data.toList → pOf o.strike c = none ∧ c ≠ 96 ∧ c ≠ 93) (ha10 : ∀ c, c ∈ escN a a.size → c ≠ 10)
    (hu : ∀ u, u ∈ us ++ [d] → 0 < u.size ∧ ∀ c, c ∈ u.data.toList → okD c = true) (hd : d.size ≤ 100000) : G.InlOf o pp t (imgO d (escN a a.size)) := by
  have hrun := images_run o.strike (fun _ _ => True) t a hs.small (us ++ [d]) (by rw [h, List.length_append]; rfl) ha0 ha hu
  rw [wrap_snoc] at hrun
  have h0 : textO (plainI a) = some (escN a a.size) := by
    unfold plainI textO
    rw [if_pos ⟨rfl, ha6⟩]
  have h1 := text_wrap a ha6 us _ h0
  have h2 : textsO [wrapI us (plainI a)] = some [escN a a.size] := by
    unfold textsO
    rw [h1]
    rfl
  have h3 : HtmlO (linkI true d ⟨#[]⟩ 0 false [wrapI us (plainI a)]) (imgO d [escN a a.size].flatten) := HtmlO.image Nat.one_pos (by show 1 ≤ 1000000; omega) h2 (by simpa using ha10) hd
  have e3 : [escN a a.size].flatten = escN a a.size := by simp
  rw [e3] at h3
  exact inl_tree o hq pp t hs _ ⟨(by show (210 : Nat) ≠ 224; decide), (by show (210 : Nat) ≠ 266; decide), (by show (210 : Nat) ≠ 228; decide)⟩ hrun _ h3
end Go.Proofs.YtmmopoofheblbaaGreatDoor.T

/- Images within images: the line and its HTML. -/
namespace Go.Proofs.YtmmopoofheblbaaGreatDoor.T
open Go Go.RowKit Go.Proofs

theorem bang_plain {s : ByteArray} (h0 : 0 < s.size) (hc : s[0] = 33) : Plain s 0 := by
  have hl : p3 s 0 = 0 := by
    unfold p3 lead
    rw [dif_pos h0, if_neg (by rw [hc]; decide)]
  have ha0 : at0 s (p3 s 0) = 33 := by rw [hl, ← hc]; exact at0_eq h0
  constructor
  all_goals first
    | (rw [ha0]; decide)
    | skip
  unfold ItemNo
  rw [ha0]
  left
  intro k hk
  simp only [List.mem_cons, List.not_mem_nil, or_false] at hk
  rcases hk with rfl | rfl | rfl | rfl | rfl | rfl | rfl | rfl | rfl | rfl | rfl | rfl | rfl <;> decide

/-- The signs of the line. -/
def ImC (c : UInt8) : Prop := G.Wd c ∨ c = 33 ∨ c = 91 ∨ c = 93 ∨ c = 40 ∨ c = 41 ∨ c = 47 ∨ c = 46
theorem imC_ne {c : UInt8} (h : ImC c) (k : UInt8) (hk : ¬ ImC k) : c ≠ k := fun e => hk (e ▸ h)

theorem image_line (t pre : ByteArray) (ht : t.size ≤ 900000) (post : List UInt8) (h1 : t.data.toList = 33 :: post) (h2 : t.data.toList = pre.data.toList ++ [41]) (hc : ∀ c, c ∈ t.data.toList → ImC c) : OneLn t ∧ Begins t 0 := by
  obtain ⟨i0, c0⟩ := get_of (pre := []) (c := 33) (post := post) (by simpa using h1)
  obtain ⟨i1, c1⟩ := get_of (pre := pre.data.toList) (c := 41) (post := []) (by simpa using h2)
  have hsz : t.size = pre.data.toList.length + 1 := by
    have e1 : t.size = t.data.toList.length := rfl
    rw [e1, h2]
    simp
  have hj : ∀ j (h : j < t.size), ImC t[j] := fun j h => hc _ (List.getElem_mem (show j < t.data.toList.length from h))
  have hlast : t[t.size - 1]'(by omega) = 41 := by
    rw [← c1]
    congr 1
    omega
  refine ⟨⟨i0, ht, ?_, ?_, fun i h => imC_ne (hj i h) 0 (by unfold ImC G.Wd; decide), fun i h => imC_ne (hj i h) 10 (by unfold ImC G.Wd; decide), fun i h => imC_ne (hj i h) 13 (by unfold ImC G.Wd; decide), ?_, fun i h => imC_ne (hj i h) 9 (by unfold ImC G.Wd; decide)⟩, Or.inl (bang_plain i0 c0)⟩
  · show isW t[0] = false
    have : t[0] = 33 := c0
    rw [this]
    decide
  · rw [hlast]
    decide
  · have : t[0] = 33 := c0
    rw [this]
    decide

/-- The line, and what it is to be. -/
def slashI : ByteArray := ⟨#[47, 105]⟩
def imgL (a d : ByteArray) (k : Nat) : List UInt8 := opensL (k + 1) ++ a.data.toList ++ closeL (List.replicate k slashI ++ [d])
def imgW (a d : ByteArray) : ByteArray := (⟨#[60, 112, 62, 60, 105, 109, 103, 32, 115, 114, 99, 61, 34]⟩ : ByteArray) ++ d ++ (⟨#[34, 32, 97, 108, 116, 61, 34]⟩ : ByteArray) ++ a ++ (⟨#[34, 32, 47, 62, 60, 47, 112, 62, 10]⟩ : ByteArray)

theorem closeL_snoc (us : List ByteArray) (d : ByteArray) : closeL (us ++ [d]) = closeL us ++ ([93, 40] ++ d.data.toList ++ [41]) := by simp [closeL]

/-- A sign of the destination. -/
def DeC (c : UInt8) : Prop := c = 97 ∨ c = 98 ∨ c = 47 ∨ c = 46
theorem deC_link {c : UInt8} (h : DeC c) : lk linkTab c = [c] := by
  rcases h with rfl | rfl | rfl | rfl <;> decide +kernel
theorem dest_link (d : ByteArray) (h : ∀ c, c ∈ d.data.toList → DeC c) : lkN linkTab d d.size = d.data.toList := by
  rw [lkN_all]
  have key : ∀ l : List UInt8, (∀ c, c ∈ l → DeC c) → l.flatMap (lk linkTab) = l := by
    intro l
    induction l with
    | nil => intro _; rfl
    | cons c l ih =>
      intro hl
      rw [List.flatMap_cons, deC_link (hl c (List.mem_cons_self ..)), ih (fun x hx => hl x (List.mem_cons_of_mem _ hx))]
      rfl
  exact key _ h
theorem deC_ok {c : UInt8} (h : DeC c) : okD c = true := by rcases h with rfl | rfl | rfl | rfl <;> rfl
theorem wd_p (st : Bool) {c : UInt8} (h : G.Wd c) : pOf st c = none ∧ c ≠ 96 ∧ c ≠ 93 := by
  refine ⟨?_, G.wd_ne h 96 (by unfold G.Wd; decide), G.wd_ne h 93 (by unfold G.Wd; decide)⟩
  unfold pOf
  rw [if_neg (G.wd_ne h 92 (by unfold G.Wd; decide)), if_neg (G.wd_ne h 60 (by unfold G.Wd; decide)), if_neg (G.wd_ne h 91 (by unfold G.Wd; decide)), if_neg (G.wd_ne h 33 (by unfold G.Wd; decide)), if_neg (G.wd_ne h 95 (by unfold G.Wd; decide)), if_neg (G.wd_ne h 42 (by unfold G.Wd; decide)), if_neg (G.wd_ne h 126 (by unfold G.Wd; decide)), if_neg (G.wd_ne h 10 (by unfold G.Wd; decide)), if_neg (G.wd_ne h 38 (by unfold G.Wd; decide))]

theorem closeL_rep (k : Nat) : (closeL (List.replicate k slashI)).length = 5 * k := by
  induction k with
  | zero => rfl
  | succ k ih =>
    rw [List.replicate_succ']
    rw [closeL_snoc, List.length_append, ih]
    show 5 * k + 5 = 5 * (k + 1)
    omega
theorem imgL_mem (a d : ByteArray) (k : Nat) (ha : ∀ c, c ∈ a.data.toList → G.Wd c) (hd : ∀ c, c ∈ d.data.toList → DeC c) : ∀ c, c ∈ imgL a d k → ImC c := by
  intro c hc
  unfold imgL at hc
  rcases List.mem_append.1 hc with hc | hc
  · rcases List.mem_append.1 hc with hc | hc
    · unfold opensL at hc
      obtain ⟨l, hl, hc⟩ := List.mem_flatten.1 hc
      rw [(List.mem_replicate.1 hl).2] at hc
      simp only [List.mem_cons, List.not_mem_nil, or_false] at hc
      rcases hc with rfl | rfl
      · exact Or.inr (Or.inl rfl)
      · exact Or.inr (Or.inr (Or.inl rfl))
    · exact Or.inl (ha c hc)
  · unfold closeL at hc
    obtain ⟨u, hu, hc⟩ := List.mem_flatMap.1 hc
    have hde : ∀ c, c ∈ u.data.toList → ImC c := by
      intro c hc
      rcases List.mem_append.1 hu with hu | hu
      · rw [(List.mem_replicate.1 hu).2] at hc
        simp only [slashI, List.mem_cons, List.not_mem_nil, or_false] at hc
        rcases hc with rfl | rfl
        · unfold ImC; simp
        · exact Or.inl (by unfold G.Wd; decide)
      · rw [List.mem_singleton.1 hu] at hc
        rcases hd c hc with rfl | rfl | rfl | rfl
        · exact Or.inl (by unfold G.Wd; decide)
        · exact Or.inl (by unfold G.Wd; decide)
        · unfold ImC; simp
        · unfold ImC; simp
    rcases List.mem_append.1 hc with hc | hc
    · rcases List.mem_append.1 hc with hc | hc
      · simp only [List.mem_cons, List.not_mem_nil, or_false] at hc
        rcases hc with rfl | rfl <;> (unfold ImC; simp)
      · exact hde c hc
    · rw [List.mem_singleton.1 hc]
      unfold ImC
      simp

theorem html_images (a d : ByteArray) (k : Nat) (w : World) (ha : G.Word a) (hd0 : 0 < d.size) (hd20 : d.size ≤ 1000) (hd : ∀ c, c ∈ d.data.toList → DeC c) (hk : k ≤ 1000) :
    Calls Tryz.prog 16 #[.agg #[.bool false, .bool false, .bool false, .bool false, .bool false, .bool false, .bool false, .bool false, .bool false, .bool false], .string (strL (imgL a d k))] w fun e w' => e = .returned (.string (imgW a d)) ∧ Same w w' := by
  have hle := ha.le
  have esz : ∀ b : ByteArray, b.data.toList.length = b.size := fun _ => rfl
  have hst : (strL (imgL a d k)).data.toList = imgL a d k := by simp [strL]
  have hsz : (strL (imgL a d k)).size ≤ 900000 := by
    have e1 : (strL (imgL a d k)).size = (imgL a d k).length := by simp [strL, ByteArray.size]
    rw [e1]
    unfold imgL
    rw [closeL_snoc]
    simp only [List.length_append, opensL_len, closeL_rep, esz, List.length_cons, List.length_nil]
    omega
  obtain ⟨hL, hB⟩ := image_line (strL (imgL a d k)) (strL (opensL (k + 1) ++ a.data.toList ++ (closeL (List.replicate k slashI) ++ ([93, 40] ++ d.data.toList)))) hsz (91 :: (opensL k ++ a.data.toList ++ closeL (List.replicate k slashI ++ [d])))
    (by rw [hst, imgL, opensL_succ]; simp) (by rw [hst, imgL, closeL_snoc]; simp [strL]) (by rw [hst]; exact imgL_mem a d k ha.all hd)
  have e1 : escN a a.size = a.data.toList := G.escN_wd a (fun c hc => G.wd_safe (ha.all c hc))
  have e2 := dest_link d hd
  have hlen : (imgO d (escN a a.size)).length ≤ 1000000 := by
    rw [imgO, e1, e2]
    simp only [imgA, altA, List.length_append, List.length_cons, List.length_nil, esz]
    omega
  have h := G.html_one ⟨false, false⟩ (strL (imgL a d k)) w hL hB _ hlen (fun pp => inl_images ⟨false, false⟩ rfl pp _ a d (List.replicate k slashI) hL (by rw [hst, imgL, List.length_replicate]) ha.pos (by omega) (fun c hc => wd_p _ (ha.all c hc)) (fun c hc => by rw [e1] at hc; exact G.wd_ne (ha.all c hc) 10 (by unfold G.Wd; decide)) (fun u hu => by
    rcases List.mem_append.1 hu with hu | hu
    · rw [(List.mem_replicate.1 hu).2]
      refine ⟨by decide, fun c hc => ?_⟩
      simp only [slashI, List.mem_cons, List.not_mem_nil, or_false] at hc
      rcases hc with rfl | rfl <;> rfl
    · rw [List.mem_singleton.1 hu]
      exact ⟨hd0, fun c hc => deC_ok (hd c hc)⟩) (by omega))
  have hw : (⟨(pOpen ++ imgO d (escN a a.size) ++ pClose).toArray⟩ : ByteArray) = imgW a d := by
    rw [imgO, e1, e2]
    apply ByteArray.ext
    simp [imgW, pOpen, pClose, imgA, altA]
  rw [hw] at h
  exact h
end Go.Proofs.YtmmopoofheblbaaGreatDoor.T

/- FnImages answers true. -/
namespace Go.Proofs.YtmmopoofheblbaaGreatDoor.T
open Go Go.RowKit Go.Proofs

def imS (a : ByteArray) (k : Nat) : ByteArray := strL (opensL k ++ a.data.toList ++ closeL (List.replicate k slashI))
theorem imS_zero (a : ByteArray) : imS a 0 = a := by
  apply ByteArray.ext
  simp [imS, strL, opensL, closeL]
theorem imS_succ (a : ByteArray) (k : Nat) : (⟨#[33, 91]⟩ : ByteArray) ++ imS a k ++ (⟨#[93, 40, 47, 105, 41]⟩ : ByteArray) = imS a (k + 1) := by
  apply ByteArray.ext
  simp [imS, strL, opensL_succ, List.replicate_succ', closeL_snoc, slashI]
theorem imS_end (a d : ByteArray) (k : Nat) : (⟨#[33, 91]⟩ : ByteArray) ++ imS a k ++ (⟨#[93, 40]⟩ : ByteArray) ++ d ++ (⟨#[41]⟩ : ByteArray) = strL (imgL a d k) := by
  apply ByteArray.ext
  simp [imS, imgL, strL, opensL_succ, closeL_snoc]
theorem imS_size (a : ByteArray) (k : Nat) : (imS a k).size = 7 * k + a.size := by
  have e1 : (imS a k).size = (opensL k ++ a.data.toList ++ closeL (List.replicate k slashI)).length := List.size_toArray
  have e2 : a.data.toList.length = a.size := rfl
  rw [e1]
  simp only [List.length_append, opensL_len, closeL_rep, e2]
  omega

def deA : ByteArray := ⟨#[97, 98, 47, 46]⟩
theorem deA_all : ∀ c : UInt8, ¬ Lib.indexByte deA.data.toList c < 0 → DeC c := by
  have : ∀ n : Fin 256, ¬ Lib.indexByte deA.data.toList (UInt8.ofNat n.1) < 0 → n.1 = 97 ∨ n.1 = 98 ∨ n.1 = 47 ∨ n.1 = 46 := by decide +kernel
  intro c h
  have h2 := this ⟨c.toNat, c.toNat_lt⟩ (by simpa using h)
  unfold DeC
  rcases h2 with h2 | h2 | h2 | h2
  · exact Or.inl (UInt8.toNat.inj h2)
  · exact Or.inr (Or.inl (UInt8.toNat.inj h2))
  · exact Or.inr (Or.inr (Or.inl (UInt8.toNat.inj h2)))
  · exact Or.inr (Or.inr (Or.inr (UInt8.toNat.inj h2)))

set_option maxRecDepth 100000 in
set_option maxHeartbeats 8000000 in
theorem images_main (a d : ByteArray) (m : Nat) (w : World) (ha : G.Word a) (hA : G.wordB a = true) (hd20 : d.size ≤ 20) (hO : onF d deA 0 = true) (hd0 : 0 < d.size) (hm : m < 30) :
    Calls Tryz.prog 4 #[.string a, .string d, .int .i64 ((m : Int) + 1)] w fun e w' => e = .returned (.bool true) ∧ Same w w' := by
  have hdc : ∀ c, c ∈ d.data.toList → DeC c := by
    intro c hc
    obtain ⟨j, hj, rfl⟩ := List.mem_iff_getElem.1 hc
    exact deA_all _ (onF_get d deA d.size 0 rfl hO j hj (Nat.zero_le _))
  have hle := ha.le
  have w0 : ¬ (2147483647 : Int) < a.size := by omega
  have w1 : ¬ (2147483647 : Int) < d.size := by omega
  have hne := bs_ne hd0
  have hne2 : d.toList ≠ [] := by intro e; rw [e] at hne; cases hne
  have w2 : ¬ (m : Int) + 1 < 1 := by omega
  have w3 : ¬ (30 : Int) < (m : Int) + 1 := by omega
  have w4 : IntKind.i64.wrap ((m : Int) + 1 - 1) = (m : Int) := by
    rw [show (m : Int) + 1 - 1 = m by omega]
    exact IntWalk.i64_in _ (by omega)
  have HDC := Lib.hid hdc
  have HA := Lib.hid hA
  have HO := Lib.hid hO
  clear hdc hA hO
  go_enter Tryz.func4, Tryz.ntmps4
  go_wp2_with fail
  refine (G.word_any a w (by omega)).mono ?_
  rintro e w' ⟨rfl, rfl⟩
  rw [HA.out]
  go_wp2_with fail
  refine (only_any d deA 20 w hd20 (by omega)).mono ?_
  rintro e w' ⟨rfl, rfl⟩
  rw [HO.out]
  clear w0 w1
  go_wp2_with fail
  go_loopg [7, 39] m (fun j v7 v39 wr => ∃ k : Nat, v7 = .string (imS a k) ∧ v39 = .int .i64 k ∧ j = m - k ∧ k ≤ m ∧ w = wr)
  case atStart => exact ⟨0, by rw [imS_zero], rfl, rfl, Nat.zero_le _, rfl⟩
  case round =>
    obtain ⟨k, rfl, rfl, rfl, hk, rfl⟩ := hrel
    have hz := imS_size a k
    have z1 : (imS a k).size ≤ 1000 := by omega
    clear hz
    have u1 : IntKind.i64.wrap ((k : Int) + 1) = (k : Int) + 1 := IntWalk.i64_in _ (by omega)
    by_cases hlt : k < m
    · have u2 : (k : Int) < m := by omega
      go_wp2_with fail
      go_roundg (m - (k + 1))
      case measure => omega
      case rel => exact ⟨k + 1, by rw [← imS_succ], by simp, rfl, by omega, rfl⟩
    · have u2 : ¬ (k : Int) < m := by omega
      have HZ := Lib.hid (imS_end a d k)
      go_wp2_with fail
      rw [HZ.out]
      refine (html_images a d k w ha hd0 (by omega) HDC.out (by omega)).mono ?_
      rintro e w5 ⟨rfl, h5⟩
      have H5 := Lib.hid h5
      clear h5
      unfold imgW
      go_wp2_with fail
      go_ret
      exact ⟨by simp, H5.out⟩

set_option maxRecDepth 100000 in
set_option maxHeartbeats 8000000 in
theorem law_images (a d : ByteArray) (n : Int) (w : World) :
    Calls Tryz.prog 4 #[.string a, .string d, .int .i64 n] w fun e w' => e = .returned (.bool true) ∧ Same w w' := by
  by_cases ba : 2147483647 < a.size
  · have w0 : (2147483647 : Int) < a.size := by omega
    go_enter Tryz.func4, Tryz.ntmps4
    go_wp2_with fail
    go_ret
    exact ⟨rfl, Mods.refl _ _⟩
  have w0 : ¬ (2147483647 : Int) < a.size := by omega
  by_cases bd : 2147483647 < d.size
  · have w1 : (2147483647 : Int) < d.size := by omega
    go_enter Tryz.func4, Tryz.ntmps4
    go_wp2_with fail
    go_ret
    exact ⟨rfl, Mods.refl _ _⟩
  have w1 : ¬ (2147483647 : Int) < d.size := by omega
  cases hA : G.wordB a with
  | false =>
    have HA := Lib.hid hA
    clear hA
    go_enter Tryz.func4, Tryz.ntmps4
    go_wp2_with fail
    refine (G.word_any a w (by omega)).mono ?_
    rintro e w' ⟨rfl, rfl⟩
    rw [HA.out]
    go_wp2_with fail
    go_ret
    exact ⟨rfl, Mods.refl _ _⟩
  | true =>
  have HA := Lib.hid hA
  by_cases b20 : 20 < d.size
  · clear hA
    go_enter Tryz.func4, Tryz.ntmps4
    go_wp2_with fail
    refine (G.word_any a w (by omega)).mono ?_
    rintro e w' ⟨rfl, rfl⟩
    rw [HA.out]
    go_wp2_with fail
    refine (only_big d deA 20 w b20 (by omega)).mono ?_
    rintro e w' ⟨rfl, rfl⟩
    go_wp2_with fail
    go_ret
    exact ⟨rfl, Mods.refl _ _⟩
  cases hO : onF d deA 0 with
  | false =>
    have HO := Lib.hid hO
    clear hA hO
    go_enter Tryz.func4, Tryz.ntmps4
    go_wp2_with fail
    refine (G.word_any a w (by omega)).mono ?_
    rintro e w' ⟨rfl, rfl⟩
    rw [HA.out]
    go_wp2_with fail
    refine (only_any d deA 20 w (by omega) (by omega)).mono ?_
    rintro e w' ⟨rfl, rfl⟩
    rw [HO.out]
    go_wp2_with fail
    go_ret
    exact ⟨rfl, Mods.refl _ _⟩
  | true =>
  have HO := Lib.hid hO
  by_cases hd0 : d.size = 0
  · have hde : d.toList.isEmpty = true := by
      have : d = ⟨#[]⟩ := ByteArray.ext (Array.eq_empty_of_size_eq_zero hd0)
      rw [this]
      decide +kernel
    clear hA hO
    go_enter Tryz.func4, Tryz.ntmps4
    go_wp2_with fail
    refine (G.word_any a w (by omega)).mono ?_
    rintro e w' ⟨rfl, rfl⟩
    rw [HA.out]
    go_wp2_with fail
    refine (only_any d deA 20 w (by omega) (by omega)).mono ?_
    rintro e w' ⟨rfl, rfl⟩
    rw [HO.out]
    go_wp2_with fail
    go_ret
    exact ⟨rfl, Mods.refl _ _⟩
  have hne := bs_ne (show 0 < d.size by omega)
  by_cases hn1 : n < 1
  · clear hA hO
    go_enter Tryz.func4, Tryz.ntmps4
    go_wp2_with fail
    refine (G.word_any a w (by omega)).mono ?_
    rintro e w' ⟨rfl, rfl⟩
    rw [HA.out]
    go_wp2_with fail
    refine (only_any d deA 20 w (by omega) (by omega)).mono ?_
    rintro e w' ⟨rfl, rfl⟩
    rw [HO.out]
    go_wp2_with fail
    go_ret
    exact ⟨rfl, Mods.refl _ _⟩
  by_cases hn30 : 30 < n
  · clear hA hO
    go_enter Tryz.func4, Tryz.ntmps4
    go_wp2_with fail
    refine (G.word_any a w (by omega)).mono ?_
    rintro e w' ⟨rfl, rfl⟩
    rw [HA.out]
    go_wp2_with fail
    refine (only_any d deA 20 w (by omega) (by omega)).mono ?_
    rintro e w' ⟨rfl, rfl⟩
    rw [HO.out]
    go_wp2_with fail
    go_ret
    exact ⟨rfl, Mods.refl _ _⟩
  obtain ⟨m, hm⟩ : ∃ m : Nat, n = (m : Int) + 1 := ⟨(n - 1).toNat, by omega⟩
  subst hm
  exact images_main a d m w (G.wordB_word hA) hA (by omega) hO (by omega) (by omega)
end Go.Proofs.YtmmopoofheblbaaGreatDoor.T

/- A start that meets the rows' condition on the listed variables: the heap that the start-up leaves, the pinned table laid. -/
namespace Go.Proofs.YtmmopoofheblbaaGreatDoor
open Go Go.ChangeShapes Go.WideShapes Go.ChangeAt Go.RowKit

theorem knob : ownKnob Tryz.prog.godebug = none := by kernel_rfl

def laid8 : List (String × DataW Unit) := Rows.fnImagesRow.laid

/-- The start. -/
noncomputable def laidW (os : Os) : World :=
  let w0 := World.doorLaid Tryz.prog 4000 os
  { w0 with heap := w0.heap.modify 2 fun
      | .cells _ t frozen => .cells (Pinned.utf8FirstZ.map fun z => Value.int .u8 (z : Nat)).toArray t frozen
      | o => o }
theorem laidW_met (os : Os) (args : Array Value) : laidMetH Tryz.prog laid8 ((laidW os).forCall (fun _ _ => 0) ⟨#[], args, []⟩).memory :=
  laidMetH_of_parts3 (fuel := 8) (laidMet_of_run' 8 (by kernel_rfl) (by kernel_rfl)) (by kernel_rfl) (by kernel_rfl)

theorem Mods.kept {S : Nat → Prop} {w w' : World} (h : Mods S w w') (hS : ∀ k, ¬ S k) (may : MemPlace → Prop) : w.keptBut w' may := by
  refine ⟨h.os, h.output, fun i hi => ?_⟩
  rw [h.block i hi (hS i)]
  cases w.heap[i]? with
  | none => rfl
  | some o =>
    cases o with
    | cells c t fr => exact ⟨rfl, rfl, rfl, fun _ _ => rfl⟩
    | map es ck => exact Or.inr ⟨rfl, rfl⟩
    | _ => rfl
end Go.Proofs.YtmmopoofheblbaaGreatDoor
