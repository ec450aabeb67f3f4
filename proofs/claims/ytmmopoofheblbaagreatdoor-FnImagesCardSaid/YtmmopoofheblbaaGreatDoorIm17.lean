/- Some texts of one proof, put into one file: Img2, MergeK, Cont4, Lines, ParseM, EmphZ. -/
import Derived.Laws.StructEq
import Derived.Deep.RegionWith
import Derived.Deep.DeepCutAuto
import Derived.Lib.Join
import Derived.Test.YtmmopoofheblbaaGreatDoorIm4
import Derived.Test.YtmmopoofheblbaaGreatDoorIm5
import Derived.Test.YtmmopoofheblbaaGreatDoorIm6
import Derived.Test.YtmmopoofheblbaaGreatDoorIm10
import Derived.Test.YtmmopoofheblbaaGreatDoorIm15
import Derived.Test.YtmmopoofheblbaaGreatDoorIm16
/- Images within images: the run, whole. -/
namespace Go.Proofs.YtmmopoofheblbaaGreatDoor.T
open Go Go.RowKit Go.Proofs

def opnL (k : Nat) : List Sr := (List.range k).map (fun j => .opn ⟨#[33, 91]⟩ ((2 * j + 2 : Nat) : Int))
def opsL (k : Nat) : List OpE := (List.range k).map (fun j => ⟨j, true, 2 * j + 2⟩)
theorem opnL_succ (k : Nat) : opnL (k + 1) = opnL k ++ [.opn ⟨#[33, 91]⟩ ((2 * k + 2 : Nat) : Int)] := by simp [opnL, List.range_succ]
theorem opsL_succ (k : Nat) : opsL (k + 1) = opsL k ++ [⟨k, true, 2 * k + 2⟩] := by simp [opsL, List.range_succ]
theorem opnL_len (k : Nat) : (opnL k).length = k := by simp [opnL]
def opensL (n : Nat) : List UInt8 := (List.replicate n [33, 91]).flatten
theorem opensL_succ (n : Nat) : opensL (n + 1) = [33, 91] ++ opensL n := by simp [opensL, List.replicate_succ]
theorem opensL_len (n : Nat) : (opensL n).length = 2 * n := by
  induction n with
  | zero => rfl
  | succ n ih => rw [opensL_succ, List.length_append, ih]; simp; omega
theorem opensL_add (k n : Nat) : opensL (k + n) = opensL k ++ opensL n := by
  induction k with
  | zero => simp [opensL]
  | succ k ih => rw [show k + 1 + n = (k + n) + 1 by omega, opensL_succ, ih, opensL_succ, List.append_assoc]
def closeL (us : List ByteArray) : List UInt8 := us.flatMap (fun u => [93, 40] ++ u.data.toList ++ [41])
def wrapI : List ByteArray → Inl → Inl
  | [], x => x
  | u :: us, x => wrapI us (linkI true u ⟨#[]⟩ 0 false [x])

theorem plainS_nil (s : ByteArray) (e : Nat) : plainS s e e = [] := by
  unfold plainS
  rw [if_neg (Nat.lt_irrefl _)]

theorem openings (st : Bool) (LK : World → PSt → Prop) (t : ByteArray) (ht : t.size ≤ 900000) (n : Nat) (rest : List UInt8) (h : t.data.toList = opensL n ++ rest) (out : List Sr) (hR : Runs st LK t ⟨2 * n, 2 * n, opnL n, opsL n, 0⟩ out) :
    ∀ k, k ≤ n → Runs st LK t ⟨2 * (n - k), 2 * (n - k), opnL (n - k), opsL (n - k), 0⟩ out := by
  intro k
  induction k with
  | zero => intro _; exact hR
  | succ k ih =>
    intro hk
    have ih := ih (by omega)
    obtain ⟨m, hm⟩ : ∃ m, n - (k + 1) = m := ⟨_, rfl⟩
    have hm1 : n - k = m + 1 := by omega
    rw [hm1] at ih
    rw [hm]
    have hn : n = m + (k + 1) := by omega
    have hb : t.data.toList = opensL m ++ ((⟨#[33, 91]⟩ : ByteArray).data.toList ++ (opensL k ++ rest)) := by
      rw [h, hn, opensL_add, opensL_succ]
      simp
    obtain ⟨i0, c0⟩ := get_of (pre := opensL m) (c := 33) (post := 91 :: (opensL k ++ rest)) (by rw [hb]; simp)
    obtain ⟨i1, c1⟩ := get_of (pre := opensL m ++ [33]) (c := 91) (post := opensL k ++ rest) (by rw [hb]; simp)
    have hx := ext_of hb
    have l1 : (opensL m ++ [33]).length = 2 * m + 1 := by simp [opensL_len]
    simp only [l1] at i1 c1
    simp only [opensL_len] at i0 c0 hx
    have e2 : (⟨#[33, 91]⟩ : ByteArray).size = 2 := rfl
    rw [e2] at hx
    have hp := imageOpen_yes t (2 * m) i1 (by omega) c1
    rw [hx] at hp
    have hpl := plainS_nil t (2 * m)
    refine .step (Step.open_ (t := 2 * m) (en := 2 * m + 2) (u := ⟨#[33, 91]⟩) (pos := 2 * m + 2) i0 (fn := 106) (by rw [c0]; rfl) hp (Nat.le_refl _) (Nat.le_refl _) (by omega) (by omega) rfl) ?_
    rw [hpl, List.append_nil, opnL_len]
    rw [show 2 * m + 2 = 2 * (m + 1) by omega, opnL_succ, opsL_succ] at *
    exact ih

theorem idles (st : Bool) (LK : World → PSt → Prop) (t : ByteArray) (e : Nat) (l : List Sr) (ops : List OpE) (last : Nat) (out : List Sr) (i j : Nat) (hij : i ≤ j) (hj : j ≤ t.size) (hc : ∀ x (hx : x < t.size), i ≤ x → x < j → pOf st t[x] = none ∧ t[x] ≠ 96 ∧ t[x] ≠ 93) (hR : Runs st LK t ⟨e, j, l, ops, last⟩ out) : Runs st LK t ⟨e, i, l, ops, last⟩ out := by
  obtain ⟨d, hd⟩ : ∃ d, j - i = d := ⟨_, rfl⟩
  induction d generalizing i with
  | zero =>
    have : i = j := by omega
    rw [this]
    exact hR
  | succ d ih =>
    obtain ⟨h1, h2, h3⟩ := hc i (by omega) (Nat.le_refl _) (by omega)
    exact .step (Step.idle (by omega) h2 (fun fn hf => by rw [h1] at hf; cases hf) (fun h => absurd h h3)) (ih (i + 1) (by omega) (fun x hx h1 h2 => hc x hx (by omega) h2) (by omega))

theorem closings (st : Bool) (LK : World → PSt → Prop) (t : ByteArray) (ht : t.size ≤ 900000) : ∀ (us : List ByteArray) (pre : List UInt8) (e : Nat) (l : List Sr) (x : Inl), t.data.toList = pre ++ closeL us → (∀ u, u ∈ us → 0 < u.size ∧ ∀ c, c ∈ u.data.toList → okD c = true) → e ≤ pre.length →
    l ++ plainS t e pre.length = opnL us.length ++ [.fin x] → Runs st LK t ⟨e, pre.length, l, opsL us.length, 0⟩ [.fin (wrapI us x)]
  | [], pre, e, l, x, h, _, he, hl => by
    have hsz : pre.length = t.size := by
      have e1 : t.size = t.data.toList.length := rfl
      rw [e1, h]
      simp [closeL]
    rw [hsz] at hl he ⊢
    have := Runs.done (st := st) (LK := LK) (l := l) (ops := opsL 0) (last := 0) he
    rw [hl] at this
    exact this
  | u :: us, pre, e, l, x, h, hu, he, hl => by
    obtain ⟨hu0, hud⟩ := hu u (List.mem_cons_self ..)
    have hb : t.data.toList = pre ++ ([93, 40] ++ u.data.toList ++ [41] ++ closeL us) := by rw [h]; simp [closeL]
    obtain ⟨hY, hC, hen, hi, h93⟩ := close_at LK t ht true (2 * us.length + 2) pre (closeL us) u hu0 hud hb
    have hpre : (pre ++ ([93, 40] ++ u.data.toList ++ [41])).length = pre.length + 2 + u.size + 1 := by
      have e2 : u.size = u.data.toList.length := rfl
      rw [e2]
      simp only [List.length_append, List.length_cons, List.length_nil]
      omega
    have hl' : l ++ plainS t e pre.length = opnL us.length ++ [.opn ⟨#[33, 91]⟩ ((2 * us.length + 2 : Nat) : Int), .fin x] := by
      rw [hl, List.length_cons, opnL_succ]
      simp
    have htk : (l ++ plainS t e pre.length).take us.length = opnL us.length := by rw [hl', List.take_left' (opnL_len _)]
    have hdr : (l ++ plainS t e pre.length).drop (us.length + 1) = [.fin x] := by
      rw [hl', ← List.drop_drop, List.drop_left' (opnL_len _)]
      rfl
    have hops : opsL (u :: us).length = opsL us.length ++ [⟨us.length, true, 2 * us.length + 2⟩] := opsL_succ _
    rw [hops]
    refine .step (Step.yes (o := ⟨us.length, true, 2 * us.length + 2⟩) hi h93 rfl hY hC (by omega) hen) ?_
    simp only [htk, hdr, if_true]
    have ih := closings st LK t ht us (pre ++ ([93, 40] ++ u.data.toList ++ [41])) (pre.length + 2 + u.size + 1) (opnL us.length ++ [.fin (linkI true u ⟨#[]⟩ 0 false [x])]) (linkI true u ⟨#[]⟩ 0 false [x]) (by rw [hb]; simp) (fun v hv => hu v (List.mem_cons_of_mem _ hv)) (by omega) (by rw [hpre, plainS_nil, List.append_nil])
    rw [hpre] at ih
    exact ih

/-- The run of images within images. -/
theorem images_run (st : Bool) (LK : World → PSt → Prop) (t a : ByteArray) (ht : t.size ≤ 900000) (us : List ByteArray) (h : t.data.toList = opensL us.length ++ a.data.toList ++ closeL us) (ha0 : 0 < a.size) (ha : ∀ c, c ∈ a.data.toList → pOf st c = none ∧ c ≠ 96 ∧ c ≠ 93) (hu : ∀ u, u ∈ us → 0 < u.size ∧ ∀ c, c ∈ u.data.toList → okD c = true) :
    Runs st LK t ⟨0, 0, [], [], 0⟩ [.fin (wrapI us (plainI a))] := by
  have hb : t.data.toList = opensL us.length ++ (a.data.toList ++ closeL us) := by rw [h, List.append_assoc]
  have hx := ext_of hb
  simp only [opensL_len] at hx
  have e2 : a.size = a.data.toList.length := rfl
  have hsz : t.size = 2 * us.length + a.size + (closeL us).length := by
    have e1 : t.size = t.data.toList.length := rfl
    rw [e1, h, List.length_append, List.length_append, opensL_len, e2]
  have hpl : (opensL us.length ++ a.data.toList).length = 2 * us.length + a.size := by rw [List.length_append, opensL_len, e2]
  have hcl := closings st LK t ht us (opensL us.length ++ a.data.toList) (2 * us.length) (opnL us.length) (plainI a) h hu (by rw [hpl]; omega) (by
    rw [hpl]
    unfold plainS
    rw [if_pos (by omega), hx])
  rw [hpl] at hcl
  have hid := idles st LK t (2 * us.length) (opnL us.length) (opsL us.length) 0 _ (2 * us.length) (2 * us.length + a.size) (by omega) (by omega) (fun x hx h1 h2 => ?_) hcl
  · have := openings st LK t ht us.length _ hb _ hid us.length (Nat.le_refl _)
    rw [Nat.sub_self] at this
    exact this
  · refine ha _ ?_
    have h3 : t.data.toList[x]? = a.data.toList[x - 2 * us.length]? := by
      rw [hb, List.getElem?_append_right (by rw [opensL_len]; exact h1), opensL_len, List.getElem?_append_left (by rw [← e2]; omega)]
    have h4 : t.data.toList[x]? = some t[x] := List.getElem?_eq_getElem (show x < t.data.toList.length from hx)
    rw [h4] at h3
    exact List.mem_of_getElem? h3.symm
end Go.Proofs.YtmmopoofheblbaaGreatDoor.T

/- mergePlain over a row without two plain texts side by side, whatever else stands in it. -/
namespace Go.Proofs.YtmmopoofheblbaaGreatDoor
open Go Go.RowKit Go.Proofs

/-- Which places of a row hold a plain text; the others are none to toPlain. -/
structure Kinds (xs : List Value) (ks : List Bool) : Prop where
  len : xs.length = ks.length
  at_ : ∀ (i : Nat) (x : Value), xs[i]? = some x → ∃ b T, x = .iface T (.pointer (some ⟨b, 0, none⟩)) ∧ ((ks[i]? = some true ∧ T = 224) ∨ (ks[i]? = some false ∧ ∀ a W, Calls Tryz.prog 136 #[.iface T (.pointer a)] W fun e w' => e = .returned (.pointer none) ∧ W = w'))

theorem kind_at {w : World} {g n cap : Nat} {xs : List Value} {ks : List Bool} (hown : w.ownsRow 0 157 1 (.slice (some ⟨g, 0, none⟩) n cap) n xs) (hx : Kinds xs ks) (i : Nat) (hi : i < n) :
    (∃ b, w.cell? ⟨g, i, none⟩ = some (.iface 224 (.pointer (some ⟨b, 0, none⟩))) ∧ xs[i]? = some (.iface 224 (.pointer (some ⟨b, 0, none⟩))) ∧ ks[i]? = some true) ∨
    (∃ b T, w.cell? ⟨g, i, none⟩ = some (.iface T (.pointer (some ⟨b, 0, none⟩))) ∧ xs[i]? = some (.iface T (.pointer (some ⟨b, 0, none⟩))) ∧ ks[i]? ≠ some true ∧
      (∀ a W, Calls Tryz.prog 136 #[.iface T (.pointer a)] W fun e w' => e = .returned (.pointer none) ∧ W = w')) := by
  have hl : xs.length = n := by have := hown.1; omega
  obtain ⟨_, _, he, _, _, hc⟩ := ownsRow_form hown (by omega)
  cases he
  obtain ⟨x, hxi⟩ : ∃ x, xs[i]? = some x := ⟨_, List.getElem?_eq_getElem (by omega)⟩
  obtain ⟨b, T, rfl, ⟨h1, rfl⟩ | ⟨h1, h2⟩⟩ := hx.at_ i x hxi
  · exact Or.inl ⟨b, hc i _ hxi, hxi, h1⟩
  · exact Or.inr ⟨b, T, hc i _ hxi, hxi, by rw [h1]; simp, h2⟩

set_option maxRecDepth 100000 in
set_option maxHeartbeats 4000000 in
theorem mergePlain_k (q : Value) (g n cap : Nat) (xs : List Value) (ks : List Bool) (w : World) (hown : w.ownsRow 0 157 1 (.slice (some ⟨g, 0, none⟩) n cap) n xs) (hx : Kinds xs ks) (hpp : ∀ i, ks[i]? = some true → ks[i + 1]? = some true → False) (hn : n ≤ 1000000) :
    Calls Tryz.prog 118 #[q, .slice (some ⟨g, 0, none⟩) n cap] w fun e w' => e = .returned (.slice (some ⟨g, 0, none⟩) n cap) ∧ Same w w' := by
  have hcap : n ≤ cap := by
    rcases hown.2 with ⟨h, _⟩ | ⟨_, _, _, h, _, _, hc, _⟩
    · cases h
    · cases h; exact hc
  have c1 : (0 : Int) ≤ cap := by omega
  go_enter Tryz.func118, Tryz.ntmps118
  go_wp2_with fail
  go_loopg [5, 6, 7] (n + 1) (fun m v5 v6 v7 wr => ∃ i : Nat, v7 = .int .i64 i ∧ m = n + 1 - i ∧ i ≤ n ∧ Same w wr ∧
    ((v5 = .slice (some ⟨g, 0, none⟩) i cap ∧ v6 = .int .i64 i ∧ (∀ k, i = k + 1 → ks[k]? ≠ some true)) ∨ (∃ k, i = k + 1 ∧ v5 = .slice (some ⟨g, 0, none⟩) k cap ∧ v6 = .int .i64 k ∧ ks[k]? = some true)))
  case atStart => exact ⟨0, rfl, by omega, by omega, Mods.refl _ _, Or.inl ⟨rfl, rfl, fun k hk => by omega⟩⟩
  case round =>
    obtain ⟨i, rfl, rfl, hi, hm, hor⟩ := hrel
    have hownr := ownsRow_keep hown hm (fun _ _ x => x)
    have w1 : IntKind.i64.wrap ((i : Int) + 1) = (i : Int) + 1 := IntWalk.i64_in _ (by omega)
    have w2 : (0 : Int) ≤ i := by omega
    have HM := Lib.hid hm
    clear hm
    by_cases hlt : i < n
    · have w3 : (i : Int) < n := by omega
      have w4 : ¬ ((n : Int) ≤ i) := by omega
      rcases kind_at hownr hx i hlt with ⟨b, hc, hxi, hpi⟩ | ⟨b, T, hc, hxi, hpi, hTP⟩
      · rcases hor with ⟨rfl, rfl, hno⟩ | ⟨k, hik, rfl, rfl, hk⟩
        · clear hno
          go_wp2_with fail
          refine (toPlain_plain _ wr).mono ?_
          rintro e w' ⟨rfl, rfl⟩
          go_wp2_with fail
          go_roundg (n + 1 - (i + 1))
          case measure => omega
          case rel => exact ⟨i + 1, by simp, rfl, by omega, HM.out, Or.inr ⟨i, rfl, rfl, rfl, hpi⟩⟩
        · subst hik; exact (hpp k hk hpi).elim
      · rcases hor with ⟨rfl, rfl, hno⟩ | ⟨k, hik, rfl, rfl, hk⟩
        · clear hno
          go_wp2_with fail
          refine (hTP _ wr).mono ?_
          rintro e w' ⟨rfl, rfl⟩
          go_wp2_with (at_builtin; refine wl_same_inl rfl (.tmp 40) (.tmp 45) rfl g i n cap xs (hownr.alloc _) hlt _ hxi rfl wr.heap.size 1 rfl rfl ((Blk.newAt _ _ rfl).cell 0) ?_)
          intro wB hmB
          go_wp2_with fail
          go_roundg (n + 1 - (i + 1))
          case measure => omega
          case rel => exact ⟨i + 1, by simp, rfl, by omega, (HM.out.alloc _).trans hmB, Or.inl ⟨rfl, by simp, fun k hk hs' => by cases hk; exact hpi hs'⟩⟩
        · obtain ⟨b0, hc0, hx0, hp0⟩ | ⟨b0, T0, hc0, hx0, hp0, ho0⟩ := kind_at hownr hx k (by omega)
          · have v1 : (k : Int) < i := by omega
            have v2 : (0 : Int) ≤ k := by omega
            have v3 : (k : Int) ≤ i := by omega
            have v4 : (i : Int) ≤ cap := by omega
            have v5 : i - k = 1 := by omega
            have hkn : k < n := by omega
            have HI := Lib.hid hik
            clear hik hk
            go_wp2_with fail
            refine (hTP _ wr).mono ?_
            rintro e w' ⟨rfl, rfl⟩
            go_wp2_with fail
            refine (mergePlain1_one g k _ _ wr hc0).mono ?_
            rintro e w' ⟨rfl, rfl⟩
            go_wp2_with (at_builtin; refine wl_same_inl rfl (.tmp 27) (.tmp 34) rfl g k n cap xs (hownr.alloc _) hkn _ hx0 rfl wr.heap.size 1 rfl rfl ((Blk.newAt _ _ rfl).cell 0) ?_)
            intro wB hmB
            have hmB' := ((Mods.refl (fun _ => False) wr).alloc _).trans hmB
            have hownB := ownsRow_keep hownr hmB' (fun _ _ x => x)
            have hcB : wB.cell? ⟨g, i, none⟩ = some (.iface T (.pointer (some ⟨b, 0, none⟩))) := by
              obtain ⟨_, _, he, _, _, hcc⟩ := ownsRow_form hownB (by omega)
              cases he
              exact hcc i _ hxi
            go_wp2_with (at_builtin; refine wl_same_inl rfl (.tmp 40) (.tmp 45) rfl g (k + 1) n cap xs (hownB.alloc _) (by have := HI.out; omega) _ (by rw [← HI.out]; exact hxi) rfl wB.heap.size 1 rfl rfl ((Blk.newAt _ _ rfl).cell 0) ?_)
            intro wC hmC
            go_wp2_with fail
            go_roundg (n + 1 - (i + 1))
            case measure => omega
            case rel => exact ⟨i + 1, by simp, rfl, by omega, ((HM.out.trans hmB').alloc _).trans hmC, Or.inl ⟨by rw [HI.out], by simp, fun k hk hs' => by cases hk; exact hpi hs'⟩⟩
          · exact absurd hk hp0
    · have hin : i = n := by omega
      subst hin
      have w3 : ¬ ((i : Int) < i) := by omega
      rcases hor with ⟨rfl, rfl, hno⟩ | ⟨k, hik, rfl, rfl, hk⟩
      · clear hno
        go_wp2_with fail
        go_ret
        exact ⟨rfl, HM.out⟩
      · obtain ⟨b0, hc0, hx0, hp0⟩ | ⟨b0, T0, hc0, hx0, hp0, ho0⟩ := kind_at hownr hx k (by omega)
        · have v1 : (k : Int) < i := by omega
          have v2 : (0 : Int) ≤ k := by omega
          have v3 : (k : Int) ≤ i := by omega
          have v4 : (i : Int) ≤ cap := by omega
          have v5 : i - k = 1 := by omega
          have hkn : k < i := by omega
          have HI := Lib.hid hik
          clear hik hk
          go_wp2_with fail
          refine (mergePlain1_one g k _ _ wr hc0).mono ?_
          rintro e w' ⟨rfl, rfl⟩
          go_wp2_with (at_builtin; refine wl_same_inl rfl (.tmp 27) (.tmp 34) rfl g k i cap xs (hownr.alloc _) hkn _ hx0 rfl wr.heap.size 1 rfl rfl ((Blk.newAt _ _ rfl).cell 0) ?_)
          intro wB hmB
          have hmB' := ((Mods.refl (fun _ => False) wr).alloc _).trans hmB
          go_wp2_with fail
          go_ret
          exact ⟨by rw [HI.out]; rfl, HM.out.trans hmB'⟩
        · exact absurd hk hp0
end Go.Proofs.YtmmopoofheblbaaGreatDoor

/- addLine where a paragraph is open below the document: the line goes on with it. -/
namespace Go.Proofs.YtmmopoofheblbaaGreatDoor
open Go Go.RowKit Go.Proofs

theorem line_neq_same (i : Nat) (text : ByteArray) (nl : Int) (w : World) : (binOp .neq 177 (LV i text nl) (LV i text nl)).run Tryz.prog w = .ok (.bool false) w := by
  have hs : Tryz.prog.stoodInHeld 177 = false := by kernel_rfl
  have key : ∀ fs, Tryz.prog.underlying 177 = some (.struct fs) → Tryz.prog.fieldsOf 177 = fs := fun fs h => by simp [Program.fieldsOf, h]
  have hf := key _ Tryz.underlying177
  rw [run_neq_struct, run_equalIn_struct w 9999 177 _ _ (by rw [hf]; exact Tryz.underlying177) hs, hf]
  simp [Op.eqFields, part, go_sem]

theorem m_extend_para (k : Nat) (a : Addr) (w : World) : (method (k + 1) 287 (.pointer (some a)) "pub-paratext/pub/rscmarkdown.extend").run Tryz.prog w = .ok (395, .pointer (some a)) w := by kernel_rfl

/-- A paragraph takes no line by itself. -/
theorem para_extend (v q : Value) (i : Nat) (text : ByteArray) (nl : Int) (w : World) :
    Calls Tryz.prog 395 #[v, q, LV i text nl] w fun e w' => e = .returned (.tuple #[LV i text nl, .bool false]) ∧ Same w w' := by
  go_enter Tryz.func395, Tryz.ntmps395
  go_wp2_with fail
  exact bodyPost_ret (v := .tuple #[LV i text nl, .bool false]) (by simp [results, Tryz.results395, go_sem]) rfl ⟨rfl, ((Mods.refl _ w).alloc _).alloc _⟩

theorem ParaL.depth0 {w : World} {bp g n cap : Nat} {p : PSt} {L : List OB} {bb gt ct m : Nat} {xs : List ByteArray} (h : ParaL w bp g n cap p L bb gt ct m xs) :
    ParaL (w.setCell ⟨bp, 5, none⟩ (.int .i64 0)) bp g n cap { p with depth := 0 } L bb gt ct m xs ∧ Mods (fun k => k = bp) w (w.setCell ⟨bp, 5, none⟩ (.int .i64 0)) := by
  have hm : Mods (fun k => k = bp) w (w.setCell ⟨bp, 5, none⟩ (.int .i64 0)) := (Mods.refl (fun k => k = bp) w).setCell (p := ⟨bp, 5, none⟩) (fun _ => rfl) _
  obtain ⟨tail, htl⟩ := id h.at_
  exact ⟨⟨h.at_.set 5 _ { p with depth := 0 } rfl (by decide), h.stack, h.small, h.len, ownsRow_keep h.row hm (fun b hb x => by cases hb; exact htl.own_ne h.row (by decide) x.symm), h.top,
    h.blk.keep1 hm (h.blk.ne_of_type htl (by decide)), ownsRow_keep h.txt hm (fun b hb x => by cases hb; exact htl.own_ne h.txt (by decide) x.symm)⟩, hm⟩

theorem ParaL.keep {S : Nat → Prop} {w w' : World} {bp g n cap : Nat} {p : PSt} {L : List OB} {bb gt ct m : Nat} {xs : List ByteArray} (h : ParaL w bp g n cap p L bb gt ct m xs) (hm : Mods S w w') (h1 : ¬ S bp) (h2 : ¬ S g) (h3 : ¬ S bb) (h4 : ¬ S gt) :
    ParaL w' bp g n cap p L bb gt ct m xs :=
  ⟨h.at_.keep hm h1, h.stack, h.small, h.len, ownsRow_keep h.row hm (fun b hb x => by cases hb; exact h2 x), h.top, h.blk.keep hm h3, ownsRow_keep h.txt hm (fun b hb x => by cases hb; exact h4 x)⟩

theorem ParaL.lts {w : World} {bp g n cap : Nat} {p : PSt} {L : List OB} {bb gt ct m : Nat} {xs : List ByteArray} (h : ParaL w bp g n cap p L bb gt ct m xs) (hm : 0 < m) : bp < w.heap.size ∧ g < w.heap.size ∧ bb < w.heap.size ∧ gt < w.heap.size := by
  obtain ⟨_, _, he, ⟨cur, hcur⟩, _, _⟩ := ownsRow_form h.row (by omega)
  cases he
  obtain ⟨_, _, he, ⟨cur2, hcur2⟩, _, _⟩ := ownsRow_form h.txt hm
  cases he
  exact ⟨h.at_.lt, hcur.lt, h.blk.lt, hcur2.lt⟩

set_option maxRecDepth 100000 in
set_option maxHeartbeats 8000000 in
theorem addLine_cont (bp g cap : Nat) (p : PSt) (L : List OB) (bb gt ct m : Nat) (xs : List ByteArray) (text : ByteArray) (nl : Int) (w : World) (h : ParaL w bp g 1 cap p L bb gt ct m xs)
    (hs : text.size ≤ 1000000) (hbl : blankAt text 0 = false) (hO : Opt w p 5 false) (hp1 : p.parser ≠ bp) (hp2 : p.parser ≠ g) (hm0 : 0 < m) (hm6 : m ≤ 100000)
    (hN : ∀ W, ParaL W bp g 1 cap { p with depth := 0 } L bb gt ct m xs → TriesNo W bp 0 text nl) :
    Calls Tryz.prog 89 #[.pointer (some ⟨bp, 0, none⟩), LV 0 text nl] w fun e w' => e = .returned (.tuple #[]) ∧
      Mods (fun k => k = bp ∨ k = g ∨ k = bb ∨ k = gt) w w' ∧ ∃ gt' ct', ParaL w' bp g 1 cap { p with depth := 0 } (updE L 0 2 p.lineno) bb gt' ct' (m + 1) (xs ++ [trimL (text.extract 0 text.size)]) ∧ (gt' = gt ∨ w.heap.size ≤ gt') := by
  have k5 := h.at_.depth
  have f5 := h.at_.fr 5
  have hbpl := h.at_.lt
  go_enter Tryz.func89, Tryz.ntmps89
  go_wp2
  go_step3
  go_wp2
  generalize hW : (World.alloc _ _ : World) = W
  have hd0 := h.depth0
  have hmW : Mods (fun k => k = bp) w W := by subst hW; exact hd0.2.alloc _
  have h0 : ParaL W bp g 1 cap { p with depth := 0 } L bb gt ct m xs := by subst hW; exact hd0.1.same ((Mods.refl _ _).alloc _)
  have hbk : LineAt W w.heap.size 0 text nl := by subst hW; exact Blk.newAt _ _ (by simp)
  clear hW hd0
  have hO0 : Opt W p 5 false := hO.keep hmW hp1
  clear k5 f5 hbpl
  have hx := m_extend_para
  have hq := line_neq_same
  go_loopg [] 0 (fun g wr => W = wr)
  case atStart => rfl
  case round =>
    subst hrel
    have k4 := h0.at_.stack
    rw [h0.stack] at k4
    have k5 : W.cell? ⟨bp, 5, none⟩ = some (.int .i64 0) := h0.at_.depth
    have kt : W.cell? ⟨g, 4, none⟩ = some (.iface 287 (.pointer (some ⟨bb, 0, none⟩))) := h0.inPara.top
    have hgl : g < W.heap.size := World.block_lt_of_cell? _ _ kt
    go_wp2_with fail
    go_quiet (fail)
    generalize hX : (W.drewN _ : World) = W1
    have hm1 : Same W W1 := by subst hX; exact (Mods.refl _ W).drewN _
    clear hX k4 k5 kt
    have h1 := h0.same hm1
    have hbk1 := Same.blk hm1 hbk
    obtain ⟨g0, g1, g2, g3, g4, gf0, gf1, gf2, gf3, gf4, gbl⟩ := LineAt.facts hbk1
    go_wp2_with fail
    clear g0 g1 g2 g3 g4 gf0 gf1 gf2 gf3 gf4 gbl hgl
    generalize hX : (W1.alloc _ : World) = X
    have hm2 : Same W1 X := by subst hX; exact (Mods.refl _ W1).alloc _
    have hold : LineAt X W1.heap.size 0 text nl := by subst hX; exact Blk.newAt _ _ rfl
    clear hX
    have h2 := h1.same hm2
    have hbk2 := Same.blk hm2 hbk1
    have hkX : Same W X := hm1.trans hm2
    clear h1 hbk1
    have hS0 : Same X X := Mods.refl _ _
    have HE : ∀ V, Same X V → Calls Tryz.prog 395 #[.pointer (some ⟨bb, 0, none⟩), .pointer (some ⟨bp, 0, none⟩), LV 0 text nl] V fun e V' => e = .returned (.tuple #[LV 0 text nl, .bool false]) ∧ Same X V' ∧
        (V'.cell? ⟨w.heap.size, 0, none⟩ = some (.int .i64 0) ∧ V'.cell? ⟨w.heap.size, 1, none⟩ = some (.int .i64 0) ∧ V'.cell? ⟨w.heap.size, 2, none⟩ = some (.int .i64 0) ∧ V'.cell? ⟨w.heap.size, 3, none⟩ = some (.string text) ∧ V'.cell? ⟨w.heap.size, 4, none⟩ = some (.int .u8 nl) ∧
          V'.frozen? ⟨w.heap.size, 0, none⟩ = false ∧ V'.frozen? ⟨w.heap.size, 1, none⟩ = false ∧ V'.frozen? ⟨w.heap.size, 2, none⟩ = false ∧ V'.frozen? ⟨w.heap.size, 3, none⟩ = false ∧ V'.frozen? ⟨w.heap.size, 4, none⟩ = false ∧ w.heap.size < V'.heap.size) := fun V hV =>
      (para_extend _ _ 0 text nl V).mono fun e V' ⟨x1, x2⟩ => ⟨x1, hV.trans x2, LineAt.facts (Same.blk (hV.trans x2) hbk2)⟩
    have k4 := h2.at_.stack
    rw [h2.stack] at k4
    have k5 : X.cell? ⟨bp, 5, none⟩ = some (.int .i64 0) := h2.at_.depth
    have kt : X.cell? ⟨g, 4, none⟩ = some (.iface 287 (.pointer (some ⟨bb, 0, none⟩))) := h2.inPara.top
    have hgl : g < X.heap.size := World.block_lt_of_cell? _ _ kt
    have hbpl := h2.at_.lt
    obtain ⟨g0, g1, g2, g3, g4, gf0, gf1, gf2, gf3, gf4, gbl⟩ := LineAt.facts hbk2
    go_upto_region 6 with (fail)
    go_cut [5] (fun s5 wx => s5 = .bool false ∧ Mods (fun k => k = w.heap.size) W wx ∧ LineAt wx w.heap.size 0 text nl ∧ LineAt wx W1.heap.size 0 text nl)
    case first =>
      go_region_with ((go_at_call 395; refine (HE _ (by repeat (first | assumption | apply Mods.drew))).mono ?_; rintro e' wC ⟨rfl, hmC, c0, c1, c2, c3, c4, cf0, cf1, cf2, cf3, cf4, cbl⟩))
      all_goals
        have hbC := Same.blk hmC hbk2
        have hoC := Same.blk hmC hold
        have hzm := hm1.size
        have hzW := hmW.size
        have hP := put5 hbC 0 text nl
        have hkC : Same W wC := hkX.trans hmC
        have hzn : W1.heap.size ≠ w.heap.size := by have := hbk.lt; omega
        clear g0 g1 g2 g3 g4 gf0 gf1 gf2 gf3 gf4 gbl c0 c1 c2 c3 c4 cf0 cf1 cf2 cf3 cf4 cbl k4 k5 kt hx hq HE
        go_wp2_with fail
        go_meet
        case rel => exact ⟨rfl, (hkC.mono (fun _ _ h => absurd h (fun x => x))).trans hP.1, hP.2, hoC.keep1 hP.1 hzn⟩
    case rest =>
      obtain ⟨rfl, hmx, hbx, hox⟩ := hcut
      have hlts := h.lts hm0
      have hx0 : ParaL wc bp g 1 cap { p with depth := 0 } L bb gt ct m xs := h0.keep hmx (by omega) (by omega) (by omega) (by omega)
      have hTX := hN wc hx0
      have hOx : Opt wc p 5 false := hO0.keep hmx (by have hplt : p.parser < w.heap.size := World.block_lt_of_cell? _ _ hO.cell; omega)
      have hMx : Mods (fun k => k = bp) w wc := hmW.then hmx (fun b hb h => by omega)
      clear h0 hbk hO0 hmW hm1 hold hm2 h2 hbk2 hkX HE k4 k5 kt hgl hbpl g0 g1 g2 g3 g4 gf0 gf1 gf2 gf3 gf4 gbl hS0 hmx hx
      go_wp2_with fail
      refine (isBlank_any _ _ _ _ _ hs (Nat.zero_le _) hox).mono ?_
      rintro e w2 ⟨rfl, n2, rfl⟩
      rw [show (trimL (text.extract 0 text.size)).toList.isEmpty = false from hbl]
      have hbx2 : LineAt (wc.drewN n2) w.heap.size 0 text nl := hbx
      have hox2 : LineAt (wc.drewN n2) W1.heap.size 0 text nl := hox
      obtain ⟨g0, g1, g2, g3, g4, gf0, gf1, gf2, gf3, gf4, gbl⟩ := LineAt.facts hbx2
      obtain ⟨o0, o1, o2, o3, o4, of0, of1, of2, of3, of4, obl⟩ := LineAt.facts hox2
      go_wp2_with fail
      have hmB : Same wc (wc.drewN n2) := (Mods.refl _ _).drewN _
      generalize wc.drewN n2 = wB at *
      have hstop : Same wc wB := hmB
      clear hbx hox o0 o1 o2 o3 o4 of0 of1 of2 of3 of4 obl g0 g1 g2 g3 g4 gf0 gf1 gf2 gf3 gf4 gbl hox2
      refine (isBlank_any _ _ _ _ _ hs (Nat.zero_le _) hbx2).mono ?_
      rintro e w3 ⟨rfl, n3, rfl⟩
      rw [show (trimL (text.extract 0 text.size)).toList.isEmpty = false from hbl]
      have hbk3 : LineAt (wB.drewN n3) w.heap.size 0 text nl := hbx2
      have hm3 : Same wc (wB.drewN n3) := hstop.drewN _
      generalize wB.drewN n3 = w3 at *
      clear hbx2 hmB hstop hbl
      go_wp2_with fail
      go_step3
      go_wp2_with fail
      refine (news_any _).mono ?_
      rintro e w4 ⟨nb, rfl, hm4, hnb⟩
      have hm34 := hm3.trans hm4
      have hbk4 := Same.blk hm4 hbk3
      clear hm3 hm4 hbk3
      go_wp2
      go_loopg [88] 8 (fun gg j wr => ∃ k : Nat, gg = 8 - k ∧ j = .int .i64 k ∧ k ≤ 8 ∧ Same w4 wr)
      case atStart => exact ⟨0, rfl, rfl, by omega, Mods.refl _ _⟩
      case round =>
        obtain ⟨k, hg, rfl, hk8, hr5⟩ := hrel
        have hm5 := hm34.trans hr5
        have hbk5 := Same.blk hr5 hbk4
        have hnb5 := Same.blk hr5 hnb
        obtain ⟨g0, g1, g2, g3, g4, gf0, gf1, gf2, gf3, gf4, gbl⟩ := LineAt.facts hbk5
        have hcases : k = 0 ∨ k = 1 ∨ k = 2 ∨ k = 3 ∨ k = 4 ∨ k = 5 ∨ k = 6 ∨ k = 7 ∨ k = 8 := by omega
        rcases hcases with rfl | rfl | rfl | rfl | rfl | rfl | rfl | rfl | rfl
        · have n0 : wr.cell? ⟨nb, 0, none⟩ = some (.func (.func 164) #[] #[]) := hnb5.cell 0
          go_wp2_with fail
          refine (hTX 164 (by simp) wr hm5).mono ?_
          rintro e w6 ⟨rfl, hm6⟩
          clear n0 g0 g1 g2 g3 g4 gf0 gf1 gf2 gf3 gf4 gbl
          go_wp2
          go_roundg 7
          case measure => omega
          case rel => exact ⟨1, rfl, rfl, by omega, (hr5.trans hm6).alloc _⟩
        · have n0 : wr.cell? ⟨nb, 1, none⟩ = some (.func (.func 165) #[] #[]) := hnb5.cell 1
          go_wp2_with fail
          refine (hTX 165 (by simp) wr hm5).mono ?_
          rintro e w6 ⟨rfl, hm6⟩
          clear n0 g0 g1 g2 g3 g4 gf0 gf1 gf2 gf3 gf4 gbl
          go_wp2
          go_roundg 6
          case measure => omega
          case rel => exact ⟨2, rfl, rfl, by omega, (hr5.trans hm6).alloc _⟩
        · have n0 : wr.cell? ⟨nb, 2, none⟩ = some (.func (.func 166) #[] #[]) := hnb5.cell 2
          go_wp2_with fail
          refine (hTX 166 (by simp) wr hm5).mono ?_
          rintro e w6 ⟨rfl, hm6⟩
          clear n0 g0 g1 g2 g3 g4 gf0 gf1 gf2 gf3 gf4 gbl
          go_wp2
          go_roundg 5
          case measure => omega
          case rel => exact ⟨3, rfl, rfl, by omega, (hr5.trans hm6).alloc _⟩
        · have n0 : wr.cell? ⟨nb, 3, none⟩ = some (.func (.func 167) #[] #[]) := hnb5.cell 3
          go_wp2_with fail
          refine (hTX 167 (by simp) wr hm5).mono ?_
          rintro e w6 ⟨rfl, hm6⟩
          clear n0 g0 g1 g2 g3 g4 gf0 gf1 gf2 gf3 gf4 gbl
          go_wp2
          go_roundg 4
          case measure => omega
          case rel => exact ⟨4, rfl, rfl, by omega, (hr5.trans hm6).alloc _⟩
        · have n0 : wr.cell? ⟨nb, 4, none⟩ = some (.func (.func 168) #[] #[]) := hnb5.cell 4
          go_wp2_with fail
          refine (hTX 168 (by simp) wr hm5).mono ?_
          rintro e w6 ⟨rfl, hm6⟩
          clear n0 g0 g1 g2 g3 g4 gf0 gf1 gf2 gf3 gf4 gbl
          go_wp2
          go_roundg 3
          case measure => omega
          case rel => exact ⟨5, rfl, rfl, by omega, (hr5.trans hm6).alloc _⟩
        · have n0 : wr.cell? ⟨nb, 5, none⟩ = some (.func (.func 169) #[] #[]) := hnb5.cell 5
          go_wp2_with fail
          refine (hTX 169 (by simp) wr hm5).mono ?_
          rintro e w6 ⟨rfl, hm6⟩
          clear n0 g0 g1 g2 g3 g4 gf0 gf1 gf2 gf3 gf4 gbl
          go_wp2
          go_roundg 2
          case measure => omega
          case rel => exact ⟨6, rfl, rfl, by omega, (hr5.trans hm6).alloc _⟩
        · have n0 : wr.cell? ⟨nb, 6, none⟩ = some (.func (.func 170) #[] #[]) := hnb5.cell 6
          go_wp2_with fail
          refine (hTX 170 (by simp) wr hm5).mono ?_
          rintro e w6 ⟨rfl, hm6⟩
          clear n0 g0 g1 g2 g3 g4 gf0 gf1 gf2 gf3 gf4 gbl
          go_wp2
          go_roundg 1
          case measure => omega
          case rel => exact ⟨7, rfl, rfl, by omega, (hr5.trans hm6).alloc _⟩
        · have n0 : wr.cell? ⟨nb, 7, none⟩ = some (.func (.func 171) #[] #[]) := hnb5.cell 7
          go_wp2_with fail
          refine (hTX 171 (by simp) wr hm5).mono ?_
          rintro e w6 ⟨rfl, hm6⟩
          clear n0 g0 g1 g2 g3 g4 gf0 gf1 gf2 gf3 gf4 gbl
          go_wp2
          go_roundg 0
          case measure => omega
          case rel => exact ⟨8, rfl, rfl, by omega, (hr5.trans hm6).alloc _⟩
        · have h5 := hx0.same hm5
          have hO5 := hOx.keep hm5 (fun x => x)
          have HLT := Lib.hid hlts
          have HMX := Lib.hid (hMx.then hm5 (fun _ _ x => absurd x (fun x => x)))
          clear hTX hN
          go_wp2_with fail
          refine (newPara_cont bp g 1 cap { p with depth := 0 } L bb gt ct m xs 0 text 0 nl wr h5 rfl (by omega) (by omega) hs hO5 hp2 hm0 hm6).mono ?_
          rintro e w6 ⟨rfl, hmN, gt', ct', hPN, hgt⟩
          go_wp2
          try rw [Exit.noGoto_normal]
          go_end0
          refine ⟨rfl, ?_, gt', ct', hPN, ?_⟩
          · exact (HMX.out.mono (fun _ _ h => Or.inl h)).then (hmN.mono (S' := fun k => k = bp ∨ k = g ∨ k = bb ∨ k = gt) (fun _ _ h => Or.inr h)) (fun _ _ h => h)
          · rcases hgt with h | h
            · exact Or.inl h
            · right
              have := HMX.out.size
              omega
end Go.Proofs.YtmmopoofheblbaaGreatDoor

/- Lines joined by line feeds: the text of a paragraph; the plain facts that the parser's loop wants. -/
namespace Go.Proofs.YtmmopoofheblbaaGreatDoor
open Go Go.RowKit Go.Proofs

def joinT (ls : List ByteArray) : ByteArray := ⟨(Lib.join (ls.map (fun l => l.data.toList)) [10]).toArray⟩

theorem joinT_list (ls : List ByteArray) : (joinT ls).data.toList = Lib.join (ls.map (fun l => l.data.toList)) [10] := by simp [joinT]
theorem joinT_one (l : ByteArray) : joinT [l] = l := by
  apply ByteArray.ext
  simp [joinT, Lib.join_one]
theorem tail_cons (y : List UInt8) (r : List (List UInt8)) : Lib.joinTail [10] (y :: r) = 10 :: (y ++ Lib.joinTail [10] r) := by simp [Lib.joinTail]
theorem joinT_cons2 (l y : ByteArray) (r : List ByteArray) : (joinT (l :: y :: r)).data.toList = l.data.toList ++ 10 :: (joinT (y :: r)).data.toList := by
  rw [joinT_list, joinT_list, List.map_cons, List.map_cons, Lib.join_cons, Lib.join_cons, tail_cons]
theorem size_list (s : ByteArray) : s.size = s.data.toList.length := rfl
theorem joinT_size2 (l y : ByteArray) (r : List ByteArray) : (joinT (l :: y :: r)).size = l.size + 1 + (joinT (y :: r)).size := by
  rw [size_list, joinT_cons2, List.length_append, List.length_cons, size_list, size_list]
  omega

theorem joinT_mem : ∀ (ls : List ByteArray) (c : UInt8), c ∈ (joinT ls).data.toList → c = 10 ∨ ∃ l ∈ ls, c ∈ l.data.toList
  | [], c, h => by simp [joinT, Lib.join_nil] at h
  | [l], c, h => by rw [joinT_one] at h; exact Or.inr ⟨l, by simp, h⟩
  | l :: y :: r, c, h => by
    rw [joinT_cons2, List.mem_append, List.mem_cons] at h
    rcases h with h | h | h
    · exact Or.inr ⟨l, by simp, h⟩
    · exact Or.inl h
    · rcases joinT_mem (y :: r) c h with h | ⟨x, hx, h⟩
      · exact Or.inl h
      · exact Or.inr ⟨x, List.mem_cons_of_mem _ hx, h⟩

theorem get_mem {s : ByteArray} {i : Nat} (hi : i < s.size) : s[i] ∈ s.data.toList := by
  have h : i < s.data.toList.length := hi
  exact List.getElem_mem h
theorem mem_get {s : ByteArray} {c : UInt8} (h : c ∈ s.data.toList) : ∃ i, ∃ hi : i < s.size, s[i] = c := by
  obtain ⟨i, hi, rfl⟩ := List.getElem_of_mem h
  exact ⟨i, hi, rfl⟩

theorem fst1_at (s : ByteArray) (c : UInt8) (k : Nat) (hk : k < s.size) (hc : s[k] = c) : ∀ (n i : Nat), k - i = n → i ≤ k → (∀ j (hj : j < s.size), i ≤ j → j < k → s[j] ≠ c) → fst1 s c i = k
  | 0, i, hn, hi, _ => by
    have : i = k := by omega
    subst this
    rw [fst1, dif_pos hk, if_pos hc]
  | n + 1, i, hn, hi, h => by
    have hlt : i < s.size := by omega
    rw [fst1, dif_pos hlt, if_neg (h i hlt (Nat.le_refl _) (by omega))]
    exact fst1_at s c k hk hc n (i + 1) (by omega) (by omega) (fun j hj h1 h2 => h j hj (by omega) h2)

theorem list_get {s : ByteArray} {i : Nat} (hi : i < s.size) : s.data.toList[i]? = some s[i] := by
  have h : i < s.data.toList.length := hi
  rw [List.getElem?_eq_getElem h]; rfl

theorem idx_first {l y : ByteArray} {r : List ByteArray} (h10 : ∀ i (hi : i < l.size), l[i] ≠ 10) : idx1 (joinT (l :: y :: r)) 10 = (l.size : Int) := by
  have hsz := joinT_size2 l y r
  have hlt : l.size < (joinT (l :: y :: r)).size := by omega
  have hk : (joinT (l :: y :: r))[l.size] = 10 := by
    have hg := list_get hlt
    rw [joinT_cons2, List.getElem?_append_right (by rw [← size_list]; exact Nat.le_refl _), ← size_list, Nat.sub_self] at hg
    simpa using hg.symm
  have hf : fst1 (joinT (l :: y :: r)) 10 0 = l.size := by
    refine fst1_at _ 10 l.size hlt hk _ 0 rfl (Nat.zero_le _) (fun j hj _ hjl => ?_)
    have hg := list_get hj
    rw [joinT_cons2, List.getElem?_append_left (by rw [← size_list]; exact hjl), list_get hjl] at hg
    rw [← Option.some.inj hg]
    exact h10 j hjl
  unfold idx1
  rw [hf, if_pos hlt]

theorem ext_first (l y : ByteArray) (r : List ByteArray) : (joinT (l :: y :: r)).extract 0 l.size = l := by
  apply ByteArray.ext
  apply Array.ext'
  rw [Lib.extract_data, joinT_cons2, List.drop_zero, Nat.sub_zero, size_list, List.take_left']
  rfl
theorem ext_rest (l y : ByteArray) (r : List ByteArray) : (joinT (l :: y :: r)).extract (l.size + 1) (joinT (l :: y :: r)).size = joinT (y :: r) := by
  apply ByteArray.ext
  apply Array.ext'
  rw [Lib.extract_data, joinT_size2, joinT_cons2]
  have h1 : (l.data.toList ++ 10 :: (joinT (y :: r)).data.toList).drop (l.size + 1) = (joinT (y :: r)).data.toList := by
    rw [size_list, ← List.drop_drop, List.drop_left']
    · rfl
    · rfl
  rw [h1, show l.size + 1 + (joinT (y :: r)).size - (l.size + 1) = (joinT (y :: r)).size by omega, size_list, List.take_length]

/-- A line that goes on with a paragraph. -/
structure Goes (text : ByteArray) : Prop extends Plain text 0 where
  c61 : ((at0 text (p3 text 0)).toNat : Int) ≠ 61

theorem triesNo_cont (bp g cap : Nat) (p : PSt) (L : List OB) (bb gt ct m : Nat) (xs : List ByteArray) (text : ByteArray) (nl : Int) (w : World) (h : ParaL w bp g 1 cap p L bb gt ct m xs) (hd : p.depth = (0 : Nat))
    (T : Nat) (v : Value) (o : OB) (ho : L[0]? = some o) (hob : o.b = .iface T v) (hT4 : T ≠ 335) (hT : Txt text) (hP : Goes text) : TriesNo w bp 0 text nl := by
  intro f hf W hW
  have h1 := h.same hW
  have hc0 : W.cell? ⟨g, 0 * 4, none⟩ = some (.iface T v) := h1.cell 0 0 o ho (by omega) _ (by rw [← hob]; rfl)
  simp only [List.mem_cons, List.not_mem_nil, or_false] at hf
  rcases hf with rfl | rfl | rfl | rfl | rfl | rfl | rfl | rfl
  · exact newQuote_no _ text 0 nl W (Nat.zero_le _) hT hP.c62
  · exact newATX_no _ text 0 nl W (Nat.zero_le _) hT hP.c35
  · exact newSetext_cont bp g 1 cap p bb text 0 nl W h1.inPara 0 hd rfl (Nat.zero_le _) hT hP.c45 hP.c61
  · exact newHR_no _ text 0 nl W (Nat.zero_le _) hT hP.c45 hP.c95 hP.c42
  · exact newListItem_no bp g 2 cap none p T 0 v text 0 nl W h1.at_ h1.stack hd (by omega) (by omega) hc0 hT4 (Nat.zero_le _) hT hP.item
  · exact newHTML_no _ text 0 nl W (Nat.zero_le _) hT hP.c60
  · exact newFence_no _ text 0 nl W (Nat.zero_le _) hT hP.c96 hP.c126
  · exact newPre_cont bp g 1 cap p bb text 0 nl W h1.inPara

/-- The text of a paragraph: its lines. -/
structure ParaText (ls : List ByteArray) : Prop where
  ne : ls ≠ []
  small : (joinT ls).size ≤ 900000
  count : ls.length ≤ 50000
  pos : ∀ l ∈ ls, 0 < l.size
  first : ∀ l ∈ ls, ∀ h : 0 < l.size, isW l[0] = false
  no0 : ∀ l ∈ ls, ∀ i (hi : i < l.size), l[i] ≠ 0
  no10 : ∀ l ∈ ls, ∀ i (hi : i < l.size), l[i] ≠ 10
  no13 : ∀ l ∈ ls, ∀ i (hi : i < l.size), l[i] ≠ 13
  no9 : ∀ l ∈ ls, ∀ i (hi : i < l.size), l[i] ≠ 9
  last : ∀ h : 0 < (joinT ls).size, isW ((joinT ls)[(joinT ls).size - 1]'(by omega)) = false
  no91 : ∀ l r, ls = l :: r → ∀ h : 0 < l.size, l[0] ≠ 91
  begins : ∀ l r, ls = l :: r → Begins l 0
  goes : ∀ l r, ls = l :: r → ∀ x ∈ r, Goes x

theorem joinT_le : ∀ (ls : List ByteArray) (l : ByteArray), l ∈ ls → l.size ≤ (joinT ls).size
  | [x], l, h => by simp at h; subst h; rw [joinT_one]; exact Nat.le_refl _
  | x :: y :: r, l, h => by
    rw [joinT_size2]
    rcases List.mem_cons.1 h with rfl | h
    · omega
    · have := joinT_le (y :: r) l h; omega

theorem joinT_drop_le : ∀ (ls : List ByteArray) (j : Nat), (joinT (ls.drop j)).size ≤ (joinT ls).size
  | ls, 0 => Nat.le_refl _
  | [], j + 1 => by simp
  | [x], j + 1 => by
    rw [List.drop_succ_cons, List.drop_nil]
    have h : (joinT []).size = 0 := rfl
    omega
  | x :: y :: r, j + 1 => by
    have := joinT_drop_le (y :: r) j
    rw [joinT_size2, List.drop_succ_cons]
    omega

theorem joinT_first {l : ByteArray} {r : List ByteArray} (h : 0 < l.size) : ∃ h' : 0 < (joinT (l :: r)).size, (joinT (l :: r))[0] = l[0] := by
  cases r with
  | nil => rw [joinT_one]; exact ⟨h, rfl⟩
  | cons y r =>
    have hsz := joinT_size2 l y r
    refine ⟨by omega, ?_⟩
    have hg := list_get (s := joinT (l :: y :: r)) (i := 0) (by omega)
    rw [joinT_cons2, List.getElem?_append_left (by rw [← size_list]; exact h), list_get h] at hg
    exact (Option.some.inj hg).symm
end Go.Proofs.YtmmopoofheblbaaGreatDoor

/- (*Parser).parse of a paragraph of some lines, over a plan of its text. -/
namespace Go.Proofs.YtmmopoofheblbaaGreatDoor
open Go Go.RowKit Go.Proofs

/-- The open blocks: the document, and a paragraph below it. -/
def twoOB (rv pv : Value) (ea eb : Int) : List OB := [⟨rv, .slice none 0 0, 0, ea⟩, ⟨pv, .slice none 0 0, 1, eb⟩]
theorem twoOB_upd (rv pv : Value) (ea eb m : Int) : updE (twoOB rv pv ea eb) 0 2 m = twoOB rv pv m m := by
  simp [updE, twoOB, List.mapIdx, List.mapIdx.go]

/-- What stands of the document when both blocks are closed. -/
structure ManyClosed (w w' : World) (bp g cap pp k : Nat) (s : ByteArray) : Prop where
  mods : Mods (fun k => k = bp ∨ k = g) w w'
  ex : ∃ rk pk tb tg tc ig ic x y x2 y2, w.heap.size ≤ rk ∧ w.heap.size ≤ pk ∧ w.heap.size ≤ tb ∧
    Blk w' rk #[.int .i64 x, .int .i64 y, .slice (some ⟨ig, 0, none⟩) 1 ic, .map none] 111 ∧
    Blk w' pk #[.int .i64 x2, .int .i64 y2, .pointer (some ⟨tb, 0, none⟩)] 138 ∧
    Blk w' tb #[.int .i64 x2, .int .i64 y2, .slice none 0 0, .string s] 135 ∧
    PsAt w' bp { p2 pp g cap with lineno := (k : Nat), texts := .slice (some ⟨tg, 0, none⟩) 1 tc, stack := .slice (some ⟨g, 0, none⟩) 0 cap, root := .pointer (some ⟨rk, 0, none⟩) } ∧
    w'.ownsRow 0 131 1 (.slice (some ⟨tg, 0, none⟩) 1 tc) 1 [.pointer (some ⟨tb, 0, none⟩)] ∧
    w'.ownsRow 0 91 1 (.slice (some ⟨ig, 0, none⟩) 1 ic) 1 [.iface 136 (.pointer (some ⟨pk, 0, none⟩))]

theorem closed_many (bp g cap pp k gt ct bb : Nat) (v : Option Addr) (ea eb : Int) (ls : List ByteArray) (w : World) (hT : ParaText ls) (hk : ls.length = k)
    (h : ParaL w bp g 1 cap { p2 pp g cap with lineno := (k : Nat) } (twoOB (.iface 172 (.pointer v)) (.iface 287 (.pointer (some ⟨bb, 0, none⟩))) ea eb) bb gt ct k ls) :
    Calls Tryz.prog 90 #[.pointer (some ⟨bp, 0, none⟩), .int .i64 0] w fun e w' => e = .returned (.tuple #[]) ∧ ManyClosed w w' bp g cap pp k (joinT ls) := by
  obtain ⟨l0, r0, hl0⟩ : ∃ l r, ls = l :: r := by
    cases hls : ls with
    | nil => exact absurd hls hT.ne
    | cons l r => exact ⟨l, r, rfl⟩
  have hp0 := hT.pos l0 (by rw [hl0]; simp)
  obtain ⟨hj0, hj1⟩ := joinT_first (r := r0) hp0
  rw [← hl0] at hj0
  have hjf : (joinT ls)[0] = l0[0] := by simpa only [hl0] using hj1
  have hk0 : 0 < k := by rw [← hk, hl0]; simp
  have hkc := hT.count
  have hsm := hT.small
  obtain ⟨_, _, he, ⟨curT, hcurT⟩, _, hc⟩ := ownsRow_form h.txt hk0
  cases he
  have hcap : k ≤ ct := by
    rcases h.txt.2 with ⟨h, _⟩ | ⟨_, _, _, h, _, _, hc, _⟩
    · cases h
    · cases h; exact hc
  have hJ : ∀ W, Same w W → Calls Tryz.prog 209 #[.slice (some ⟨gt, 0, none⟩) k ct, .string ⟨#[10]⟩] W fun e W' => e = .returned (.string (joinT ls)) ∧ Same W W' := by
    intro W hW
    subst hk
    refine (Tryz.strings_Join gt 0 ct ls ⟨#[10]⟩ W ?_ (Nat.lt_of_lt_of_le hcurT.lt hW.size) (by omega) hcap ?_).mono ?_
    · intro j x hx
      have := hc j (.string x) (by rw [List.getElem?_map, hx]; rfl)
      rw [Nat.zero_add]
      exact (World.cell?_of_block (hW.block gt hcurT.lt (fun x => x))).trans this
    · have e1 : (Lib.join (ls.map (·.data.toList)) (⟨#[10]⟩ : ByteArray).data.toList).length = (joinT ls).size := by rw [size_list, joinT_list]
      rw [e1]; omega
    · rintro e w' ⟨h1, h2⟩
      exact ⟨h1, Below.mods h2 (fun k hk hk2 => absurd hk (by omega))⟩
  have h91 : (joinT ls)[0] ≠ 91 := by rw [hjf]; exact hT.no91 l0 r0 hl0 hp0
  have h10 : (joinT ls)[0] ≠ 10 := by rw [hjf]; exact hT.no10 l0 (by rw [hl0]; simp) 0 hp0
  have h9 : (joinT ls)[0] ≠ 9 := by rw [hjf]; exact hT.no9 l0 (by rw [hl0]; simp) 0 hp0
  have h32 : (joinT ls)[0] ≠ 32 := by
    rw [hjf]
    have := hT.first l0 (by rw [hl0]; simp) hp0
    intro h; rw [h] at this; cases this
  have hrow : w.ownsRow 0 239 4 (.slice (some ⟨g, 0, none⟩) (0 + 1 + 1) cap) (0 + 1 + 1) (([] ++ [.iface 172 (.pointer v), .slice none 0 0, .int .i64 0, .int .i64 ea]) ++ [.iface 287 (.pointer (some ⟨bb, 0, none⟩)), .slice none 0 0, .int .i64 1, .int .i64 eb]) := h.row
  have hcl := closePara bp bb g 0 cap 0 0 { p2 pp g cap with lineno := (k : Nat) } [] [] [] (.iface 172 (.pointer v)) (.slice none 0 0) (.slice none 0 0) (.slice (some ⟨gt, 0, none⟩) k ct) 0 ea 1 eb k (joinT ls) w h.at_ rfl (by omega) hrow ⟨rfl, Or.inl ⟨rfl, rfl⟩⟩ (by omega) h.blk ⟨_, _, rfl⟩ (by omega)
    ⟨rfl, Or.inl ⟨rfl, rfl⟩⟩ (by omega) hJ hj0 (by omega) h32 h9 h10 h91 (by omega) (by omega)
  have hgen := trimStack_gen bp 0 (fun j W => match j with
    | 2 => W = w
    | 1 => ∃ u, ParaClosed w W bp g 0 cap 0 0 { p2 pp g cap with lineno := (k : Nat) } [] [] [] (.iface 172 (.pointer v)) (.slice none 0 0) 0 ea 1 (1 + (k : Int) - 1) (joinT ls) u
    | 0 => ManyClosed w W bp g cap pp k (joinT ls)
    | _ => False) (by omega) ?_ ?_ 2 w rfl
  · exact hgen
  · intro j W hP
    match j, hP with
    | 2, hP => subst hP; exact ⟨by omega, _, _, h.at_.stack⟩
    | 1, ⟨u, hPC⟩ =>
      obtain ⟨pk, tb, tg, tc, ig, ic, _, _, _, _, _, h, _⟩ := hPC.ex
      exact ⟨by omega, _, _, h.stack⟩
    | 0, hP =>
      obtain ⟨rk, pk, tb, tg, tc, ig, ic, _, _, _, _, _, _, _, _, _, _, h, _⟩ := hP.ex
      exact ⟨by omega, _, _, h.stack⟩
  · intro j W hP
    match j, hP with
    | 1, hP => subst hP; exact hcl.mono fun e w' ⟨v1, h1, h2⟩ => ⟨v1, h1, v1, h2⟩
    | 0, ⟨u, hPC⟩ =>
      obtain ⟨pk, tb, tg, tc, ig, ic, _, hpk, htb, hPb, hTb, hps, htx, hrow, hin⟩ := hPC.ex
      refine (closeRoot bp g cap _ v (some ⟨ig, 0, none⟩) 1 ic none 0 ea W hps rfl hrow rfl).mono ?_
      rintro e W' ⟨u', rfl, hm, rk, hrk, hR, hps'⟩
      have h1 := hPC.mods.size
      have hne : ∀ {b : Nat} {cs : Array Value} {T : Nat}, Blk W b cs T → T ≠ 167 → ¬ (b = bp) := fun h hT => by
        obtain ⟨tail, htl⟩ := id hps
        exact h.ne_of_type htl hT
      refine ⟨u', rfl, ?_, rk, pk, tb, tg, tc, ig, ic, _, _, _, _, by omega, hpk, htb, hR, hPb.keep hm (hne hPb (by decide)), hTb.keep hm (hne hTb (by decide)), hps', ?_, ?_⟩
      · refine (hPC.mods.mono (fun k _ h => ?_)).trans (hm.mono (fun _ _ h => Or.inl h))
        rcases h with h | h | h | h
        · exact Or.inl h
        · exact Or.inr h
        · cases h
        · cases h
      · exact ownsRow_keep htx hm (fun k hk x => own_ne_ps htx hps (by decide) (by rw [← x]; exact hk))
      · exact ownsRow_keep hin hm (fun k hk x => own_ne_ps hin hps (by decide) (by rw [← x]; exact hk))
end Go.Proofs.YtmmopoofheblbaaGreatDoor

/- What emph holds behind the closing mark. -/
namespace Go.Proofs.YtmmopoofheblbaaGreatDoor
open Go Go.RowKit Go.Proofs

section
variable {w wr : World} {g n cap D S m1 m2 d : Nat} {xs : List Value} {sa a1 a2 : Array Value}
theorem two_mods (wr : World) (m1 m2 : Nat) (v1 v2 : Value) : Mods (fun k => k = m1 ∨ k = m2) wr ((wr.setCell ⟨m1, 0, none⟩ v1).setCell ⟨m2, 0, none⟩ v2) :=
  ((Mods.refl (fun k => k = m1 ∨ k = m2) wr).setCell (p := ⟨m1, 0, none⟩) (fun _ => Or.inl rfl) _).setCell (p := ⟨m2, 0, none⟩) (fun _ => Or.inr rfl) _
theorem two_blk (h : Em w wr g n cap D S m1 m2 d xs sa a1 a2) {Y : World} (hm : Mods (fun k => k = m1 ∨ k = m2) wr Y) {b T : Nat} {cs : Array Value} (hb : Blk wr b cs T) (hT : T ≠ 268) : Blk Y b cs T :=
  hb.keep hm (fun x => by rcases x with e | e; exact hb.ne_of_type h.b1 hT e; exact hb.ne_of_type h.b2 hT e)
theorem two_row (h : Em w wr g n cap D S m1 m2 d xs sa a1 a2) {Y : World} (hm : Mods (fun k => k = m1 ∨ k = m2) wr Y) {e size k : Nat} {v : Value} {ys : List Value} (hr : wr.ownsRow 0 e size v k ys) (hT : 268 ≠ e) : Y.ownsRow 0 e size v k ys :=
  ownsRow_keep hr hm (fun b hb x => by rcases x with e | e; exact own_ne hr h.b1 hT (by rw [← e]; exact hb); exact own_ne hr h.b2 hT (by rw [← e]; exact hb))
theorem Em.trimmed (h : Em w wr g n cap D S m1 m2 d xs sa a1 a2) {w2 : World} {sg sc : Nat} (ht : Trimmed wr w2 S sg sc) : Em w w2 g n cap D S m1 m2 d xs (stk2 (.slice (some ⟨sg, 0, none⟩) 0 sc)) a1 a2 := by
  obtain ⟨cur, hcur⟩ := h.gblk
  have hs := h.fS
  have hm := ht.1
  exact ⟨h.mods.then hm (fun b hb x => by omega), h.fD, h.fS, h.D.keep1 hm (h.D.ne_of_type h.S (by decide)), ht.2, ownsRow_keep h.row hm (fun b hb x => by cases hb; exact hcur.ne_of_type h.S (by decide) x), h.b1.keep1 hm (h.b1.ne_of_type h.S (by decide)), h.b2.keep1 hm (h.b2.ne_of_type h.S (by decide)), h.pos⟩
theorem S_blk (h : Em w wr g n cap D S m1 m2 d xs sa a1 a2) {Y : World} (hm : Mods (fun k => k = S) wr Y) {b T : Nat} {cs : Array Value} (hb : Blk wr b cs T) (hT : T ≠ 281) : Blk Y b cs T :=
  hb.keep1 hm (hb.ne_of_type h.S hT)
theorem S_row (h : Em w wr g n cap D S m1 m2 d xs sa a1 a2) {Y : World} (hm : Mods (fun k => k = S) wr Y) {e size k : Nat} {v : Value} {ys : List Value} (hr : wr.ownsRow 0 e size v k ys) (hT : 281 ≠ e) : Y.ownsRow 0 e size v k ys :=
  ownsRow_keep hr hm (fun b hb x => own_ne hr h.S hT (by rw [← x]; exact hb))
end
end Go.Proofs.YtmmopoofheblbaaGreatDoor
