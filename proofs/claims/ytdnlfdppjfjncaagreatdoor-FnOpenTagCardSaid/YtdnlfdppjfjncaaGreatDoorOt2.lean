/- Some texts of one proof, put into one file: Tag5, Tag6, LawB, LawC, LawS, Law7. -/
import Derived.Laws.IdiomStrings
import Derived.Test.YtdnlfdppjfjncaaGreatDoorAu8
import Derived.Test.YtdnlfdppjfjncaaGreatDoorAu9
import Derived.Test.YtdnlfdppjfjncaaGreatDoorOt1
/- An open tag. -/
namespace Go.Proofs.YtdnlfdppjfjncaaGreatDoor
open Go Go.RowKit Go.Proofs

/-- What may stand behind a name or an attribute. -/
def Sep (c : UInt8) : Prop := c.toNat = 32 ∨ c.toNat = 10 ∨ c.toNat = 62

/-- n attributes, from place j to place k. -/
inductive Chain (s : ByteArray) : Nat → Nat → Nat → Prop
  | done (j : Nat) : Chain s 0 j j
  | step {n j k m : Nat} (hj : j < s.size) (hs : Sep s[j]) (ha : Attr s j k) (hk : k ≤ s.size) (h : Chain s n k m) : Chain s (n + 1) j m

theorem Chain.cases {s : ByteArray} {n j m : Nat} (h : Chain s n j m) : (n = 0 ∧ j = m) ∨ ∃ n' k, n = n' + 1 ∧ (∃ hj : j < s.size, Sep s[j]) ∧ Attr s j k ∧ k ≤ s.size ∧ Chain s n' k m := by
  cases h with
  | done => exact Or.inl ⟨rfl, rfl⟩
  | step hj hs ha hk h => exact Or.inr ⟨_, _, rfl, ⟨hj, hs⟩, ha, hk, h⟩

theorem sep_list0 {c : UInt8} (h : Sep c) : c = 32 ∨ c = 10 ∨ c = 62 := by
  rcases h with h | h | h
  · exact Or.inl (UInt8.toNat_inj.1 h)
  · exact Or.inr (Or.inl (UInt8.toNat_inj.1 h))
  · exact Or.inr (Or.inr (UInt8.toNat_inj.1 h))
theorem nd_no {c : UInt8} {n : Nat} (h : c.toNat ≠ n) : ((c.toNat : Int) != (n : Int)) = true := bne_iff_ne.2 (by omega)
theorem nd_yes {c : UInt8} {n : Nat} (h : c.toNat = n) : ((c.toNat : Int) != (n : Int)) = false := by rw [h]; simp
theorem sep_cases {c : UInt8} (h : Sep c) : (((c.toNat : Int) != 32) = false) ∨ (((c.toNat : Int) != 32) = true ∧ ((c.toNat : Int) != 9) = true ∧ ((c.toNat : Int) != 10) = false) ∨
    (((c.toNat : Int) != 32) = true ∧ ((c.toNat : Int) != 9) = true ∧ ((c.toNat : Int) != 10) = true ∧ ((c.toNat : Int) != 47) = true ∧ ((c.toNat : Int) != 62) = false) := by
  rcases h with h | h | h
  · exact Or.inl (nd_yes h)
  · exact Or.inr (Or.inl ⟨nd_no (n := 32) (by omega), nd_no (n := 9) (by omega), nd_yes h⟩)
  · exact Or.inr (Or.inr ⟨nd_no (n := 32) (by omega), nd_no (n := 9) (by omega), nd_no (n := 10) (by omega), nd_no (n := 47) (by omega), nd_yes h⟩)

/-- An open tag at place i: `<`, a name up to place m, attributes up to place j, blanks up to place k, perhaps a slash, and `>` at place z. -/
structure Tag (s : ByteArray) (i m n j k z : Nat) : Prop where
  small : s.size ≤ 1000000
  lt : i < s.size
  open_ : s[i].toNat = 60
  name : tagN s (i + 1) = some m
  mle : i + 1 ≤ m ∧ m ≤ s.size
  q1 : ((s.extract (i + 1) m).toList == [112, 114, 101]) = false
  q2 : ((s.extract (i + 1) m).toList == [115, 99, 114, 105, 112, 116]) = false
  q3 : ((s.extract (i + 1) m).toList == [115, 116, 121, 108, 101]) = false
  q4 : ((s.extract (i + 1) m).toList == [116, 101, 120, 116, 97, 114, 101, 97]) = false
  attrs : Chain s n m j
  jlt : j < s.size
  sep : Sep s[j]
  no : atN s (rn spB s j) = none
  skip : rn spB s j = k
  zlt : z < s.size
  close : s[z].toNat = 62
  kz : k = z ∨ (z = k + 1 ∧ ∃ h : k < s.size, s[k].toNat = 47)
  iz : i < z

def TagOut (W : World) (bp : Nat) (q : PSt) (t : ByteArray) (z : Nat) (e : Ending) (w' : World) : Prop :=
  ∃ b, e = .returned (.tuple #[.iface 285 (.pointer (some ⟨b, 0, none⟩)), .int .i64 ((z + 1 : Nat) : Int), .bool true]) ∧ Mods (fun k => k = bp) W w' ∧ CornerAt w' bp q ∧ W.heap.size ≤ b ∧ Blk w' b #[.string t] 286

theorem tag_end {W w1 : World} {bp : Nat} {q : PSt} {t : ByteArray} (hm : Mods (fun k => k = bp) W w1) (hc : CornerAt w1 bp q) :
    Mods (fun k => k = bp) W (w1.alloc (.cells #[.string t] 286)) ∧ CornerAt (w1.alloc (.cells #[.string t] 286)) bp q ∧ W.heap.size ≤ w1.heap.size ∧ Blk (w1.alloc (.cells #[.string t] 286)) w1.heap.size #[.string t] 286 := by
  obtain ⟨c, hc⟩ := hc
  exact ⟨hm.alloc _, ⟨c, hc.same ((Mods.refl _ _).alloc _)⟩, hm.size, Blk.newAt _ _ rfl⟩

set_option maxRecDepth 100000 in
set_option maxHeartbeats 8000000 in
theorem openTag_some (bp : Nat) (q : PSt) (s : ByteArray) (i m n j k z : Nat) (w : World) (hT : Tag s i m n j k z) (hp : PsAt w bp q) :
    Calls Tryz.prog 162 #[.pointer (some ⟨bp, 0, none⟩), .string s, .int .i64 i] w (TagOut w bp q (s.extract i (z + 1)) z) := by
  obtain ⟨hs, hi, ho, hn, ⟨hm1, hm2⟩, q1, q2, q3, q4, hch, hjl, hsep, hno, hsk, hzl, hcl, hkz, hiz⟩ := hT
  have w1 : ¬ ((s.size : Int) ≤ i) := by omega
  have w2 : (0 : Int) ≤ i := by omega
  have w3 : (i : Int) < s.size := by omega
  have w4 : IntKind.i64.wrap ((i : Int) + 1) = (i : Int) + 1 := IntWalk.i64_in _ (by omega)
  have d0 : ((s[i].toNat : Int) != 60) = false := by rw [ho]; rfl
  have HN := Lib.hid hn
  have HCH := Lib.hid hch
  have HNO := Lib.hid hno
  have HSK := Lib.hid hsk
  have HSEP := Lib.hid hsep
  have HKZ := Lib.hid hkz
  have hkle := rn_le (P := spB) (s := s) (i := j) (by omega)
  rw [hsk] at hkle
  clear hn hch hno hsk hsep ho hkz
  go_enter Tryz.func162, Tryz.ntmps162
  go_wp2_with fail
  refine (tagName_some s (i + 1) m w hs HN.out).mono ?_
  rintro e w' ⟨rfl, rfl⟩
  generalize s.extract (i + 1) m = nm at *
  go_wp2_with fail
  clear q1 q2 q3 q4 d0
  go_loopg [10, 12, 13, 14] n (fun a v10 v12 v13 v14 wr => ∃ x : Nat, v10 = .int .i64 x ∧ x ≤ s.size ∧ Chain s a x j ∧ Mods (fun b => b = bp) w wr ∧ CornerAt wr bp q)
  case atStart => exact ⟨m, rfl, hm2, HCH.out, Mods.refl _ _, q.corner, hp⟩
  case round =>
    clear HCH hp
    obtain ⟨x, rfl, hx9, hC, hM, hcor⟩ := hrel
    have HM := Lib.hid hM
    clear hM
    rcases hC.cases with ⟨hg, hxj⟩ | ⟨n', y, hg, ⟨hxl, hxs⟩, hat, hy9, hC2⟩
    · subst hxj
      have HG := Lib.hid hg
      clear hC hg
      have v1 : (x : Int) < s.size := by omega
      have v2 : ¬ ((s.size : Int) ≤ x) := by omega
      have v3 : (0 : Int) ≤ x := by omega
      obtain ⟨c, hpc⟩ := hcor
      have k6 := hpc.corner
      have f6 := hpc.fr 6
      have hbl := hpc.lt
      have hsc := sep_cases HSEP.out
      have HP := Lib.hid hpc
      have HCL := Lib.hid hcl
      clear hpc hcl
      have u0 : k ≤ z := by
        rcases HKZ.out with h | ⟨h, _⟩ <;> omega
      have u1 : (k : Int) < s.size := by omega
      have u1' : ¬ ((s.size : Int) ≤ k) := by omega
      have u2 : (0 : Int) ≤ k := by omega
      have u5 : IntKind.i64.wrap ((k : Int) + 1) = (k : Int) + 1 := IntWalk.i64_in _ (by omega)
      have u6 : ((k : Int) + 1).toNat = k + 1 := by omega
      have hset : Mods (fun b => b = bp) w (wr.setCell ⟨bp, 6, none⟩ (.bool true)) ∧ CornerAt (wr.setCell ⟨bp, 6, none⟩ (.bool true)) bp q :=
        ⟨HM.out.trans ((Mods.refl (fun k => k = bp) wr).setCell (p := ⟨bp, 6, none⟩) (fun _ => rfl) _), true, HP.out.set 6 _ { q with corner := true } rfl (by decide)⟩
      have HSET := Lib.hid hset
      clear hset
      rcases hsc with d1 | ⟨d1, d2, d3⟩ | ⟨d1, d2, d3, d4, d5⟩
      all_goals
        go_wp2_with fail
        refine (attr_none bp s x wr hs hx9 HNO.out).mono ?_
        rintro e w' ⟨rfl, rfl⟩
        go_wp2_with fail
        refine (skipSpace_any s x wr hs (by omega)).mono ?_
        rintro e w' ⟨rfl, rfl⟩
        rw [HSK.out]
        clear d1
        try clear d2 d3
        try clear d4 d5
        rcases HKZ.out with hz | ⟨hz, hk2, hk3⟩
        · subst hz
          have c1 : ((s[k].toNat : Int) == 47) = false := d_no (n := 47) (by rw [HCL.out]; decide)
          have c2 : ((s[k].toNat : Int) == 62) = true := d_yes HCL.out
          have u7 : (i : Int) ≤ (k : Int) + 1 := by omega
          have u8 : (k : Int) + 1 ≤ s.size := by omega
          by_cases hkj : k = x
          · have b1 : ((k : Int) != (x : Int)) = false := by rw [hkj]; simp
            have b2 : ((k : Int) == (x : Int)) = true := by rw [hkj]; simp
            clear hkj
            go_wp2_with fail
            go_ret3
            exact ⟨_, by simp, tag_end HM.out ⟨_, HP.out⟩⟩
          · have b1 : ((k : Int) != (x : Int)) = true := by simp; omega
            have b2 : ((k : Int) == (x : Int)) = false := by simp; omega
            clear hkj
            go_wp2_with fail
            go_ret3
            exact ⟨_, by simp, tag_end HSET.out.1 HSET.out.2⟩
        · subst hz
          have c1 : ((s[k].toNat : Int) == 47) = true := d_yes hk3
          have c2 : ((s[k + 1].toNat : Int) == 62) = true := d_yes HCL.out
          have u7 : (i : Int) ≤ (k : Int) + 1 + 1 := by omega
          have u8 : (k : Int) + 1 + 1 ≤ s.size := by omega
          have u9 : IntKind.i64.wrap ((k : Int) + 1 + 1) = (k : Int) + 1 + 1 := IntWalk.i64_in _ (by omega)
          have u10 : ((k : Int) + 1 + 1).toNat = k + 1 + 1 := by omega
          have u11 : (k : Int) + 1 < s.size := by omega
          have u12 : (0 : Int) ≤ (k : Int) + 1 := by omega
          clear hk3
          by_cases hkj : k = x
          · have b1 : ((k : Int) != (x : Int)) = false := by rw [hkj]; simp
            have b2 : ((k : Int) == (x : Int)) = true := by rw [hkj]; simp
            clear hkj
            go_wp2_with fail
            go_ret3
            exact ⟨_, by simp, tag_end HM.out ⟨_, HP.out⟩⟩
          · have b1 : ((k : Int) != (x : Int)) = true := by simp; omega
            have b2 : ((k : Int) == (x : Int)) = false := by simp; omega
            clear hkj
            go_wp2_with fail
            go_ret3
            exact ⟨_, by simp, tag_end HSET.out.1 HSET.out.2⟩
    · have HG := Lib.hid hg
      clear hC hg
      have v1 : (x : Int) < s.size := by omega
      have v2 : ¬ ((s.size : Int) ≤ x) := by omega
      have v3 : (0 : Int) ≤ x := by omega
      obtain ⟨c, hpc⟩ := hcor
      have hsc := sep_cases hxs
      have HC2 := Lib.hid hC2
      clear hxs hC2
      rcases hsc with d1 | ⟨d1, d2, d3⟩ | ⟨d1, d2, d3, d4, d5⟩
      all_goals
        go_wp2_with fail
        refine (attr_some bp _ s x y wr hs hx9 hat hpc).mono ?_
        rintro e w1 ⟨rfl, hm1, c1, hc1⟩
        clear d1
        try clear d2 d3
        try clear d4 d5
        go_wp2_with fail
        go_roundg n'
        case measure => have := HG.out; omega
        case rel => exact ⟨y, rfl, hy9, HC2.out, HM.out.trans hm1, c1, hc1⟩
end Go.Proofs.YtdnlfdppjfjncaaGreatDoor

/- The text of FnOpenTag: plain law. -/
namespace Go.Proofs.YtdnlfdppjfjncaaGreatDoor
open Go Go.RowKit Go.Proofs

/-- From place i on the text is L. -/
def FromL (s : ByteArray) (i : Nat) (L : List UInt8) : Prop := s.data.toList.drop i = L
theorem FromL.app {s : ByteArray} {i : Nat} {x y : List UInt8} (h : FromL s i (x ++ y)) : FromL s (i + x.length) y := by
  unfold FromL at *
  have h1 := congrArg (List.drop x.length) h
  rw [List.drop_drop, List.drop_left] at h1
  exact h1
theorem FromL.tl {s : ByteArray} {i : Nat} {c : UInt8} {r : List UInt8} (h : FromL s i (c :: r)) : FromL s (i + 1) r := FromL.app (x := [c]) h
theorem FromL.lt {s : ByteArray} {i : Nat} {c : UInt8} {r : List UInt8} (h : FromL s i (c :: r)) : i < s.size := by
  unfold FromL at h
  by_cases hlt : i < s.size
  · exact hlt
  · rw [List.drop_eq_nil_of_le (show s.data.toList.length ≤ i by have e : s.data.toList.length = s.size := rfl; omega)] at h
    cases h
theorem FromL.hd {s : ByteArray} {i : Nat} {c : UInt8} {r : List UInt8} (h : FromL s i (c :: r)) (hi : i < s.size) : s[i] = c := by
  unfold FromL at h
  rw [drop_at s i hi] at h
  exact (List.cons.inj h).1
theorem FromL.run {s : ByteArray} {i : Nat} {L : List UInt8} (h : FromL s i L) (P : UInt8 → Bool) : rn P s i = i + (L.takeWhile P).length := by
  unfold rn
  rw [show s.data.toList.drop i = L from h]
theorem FromL.size {s : ByteArray} {i : Nat} {L : List UInt8} (h : FromL s i L) (hi : i ≤ s.size) : s.size = i + L.length := by
  have h1 := congrArg List.length h
  rw [List.length_drop] at h1
  have e : s.data.toList.length = s.size := rfl
  omega

def sepL (k : UInt8) : List UInt8 := if k.toNat % 3 = 0 then [32] else if k.toNat % 3 = 1 then [10] else [32, 32]
def valL (k : UInt8) : List UInt8 := if k.toNat / 3 % 4 = 0 then [61, 34, 118, 32, 62, 32, 119, 34] else if k.toNat / 3 % 4 = 1 then [61, 39, 118, 32, 34, 119, 39] else if k.toNat / 3 % 4 = 2 then [32, 61, 32, 118] else []
def attL (i : Nat) (k : UInt8) : List UInt8 := sepL k ++ 107 :: UInt8.ofNat (48 + i) :: valL k
def attsL : Nat → List UInt8 → List UInt8
  | _, [] => []
  | i, k :: r => attL i k ++ attsL (i + 1) r
def endL (slash : Bool) : List UInt8 := (if slash then [32, 47] else []) ++ [62]

theorem sepL_cases (k : UInt8) : sepL k = [32] ∨ sepL k = [10] ∨ sepL k = [32, 32] := by
  unfold sepL
  split
  · exact Or.inl rfl
  · split
    · exact Or.inr (Or.inl rfl)
    · exact Or.inr (Or.inr rfl)
theorem valL_cases (k : UInt8) : valL k = [61, 34, 118, 32, 62, 32, 119, 34] ∨ valL k = [61, 39, 118, 32, 34, 119, 39] ∨ valL k = [32, 61, 32, 118] ∨ valL k = [] := by
  unfold valL
  split
  · exact Or.inl rfl
  · split
    · exact Or.inr (Or.inl rfl)
    · split
      · exact Or.inr (Or.inr (Or.inl rfl))
      · exact Or.inr (Or.inr (Or.inr rfl))

/-- What stands behind an attribute: a separator, and no equal sign behind blanks. -/
structure After (L : List UInt8) : Prop where
  ex : ∃ c r, L = c :: r ∧ Sep c
  no : ∀ x y, L.dropWhile spB = x :: y → x ≠ 61

theorem After.fin (slash : Bool) (x : UInt8) (y : List UInt8) : After (endL slash ++ x :: y) := by
  cases slash with
  | true => exact ⟨⟨32, 47 :: 62 :: x :: y, rfl, Or.inl rfl⟩, fun a b h => by
      have e : (endL true ++ x :: y).dropWhile spB = 47 :: 62 :: x :: y := by simp [endL, spB]
      rw [e] at h
      rw [← (List.cons.inj h).1]
      decide⟩
  | false => exact ⟨⟨62, x :: y, rfl, Or.inr (Or.inr rfl)⟩, fun a b h => by
      have e : (endL false ++ x :: y).dropWhile spB = 62 :: x :: y := by simp [endL, spB]
      rw [e] at h
      rw [← (List.cons.inj h).1]
      decide⟩
theorem After.att (d : Nat) (k : UInt8) (L : List UInt8) : After (attL d k ++ L) := by
  unfold attL
  rcases sepL_cases k with h | h | h
  · rw [h]
    exact ⟨⟨32, _, rfl, Or.inl rfl⟩, fun a b hab => by
      have e : ([32] ++ 107 :: UInt8.ofNat (48 + d) :: valL k ++ L).dropWhile spB = 107 :: (UInt8.ofNat (48 + d) :: valL k ++ L) := by simp [spB]
      rw [e] at hab
      rw [← (List.cons.inj hab).1]
      decide⟩
  · rw [h]
    exact ⟨⟨10, _, rfl, Or.inr (Or.inl rfl)⟩, fun a b hab => by
      have e : ([10] ++ 107 :: UInt8.ofNat (48 + d) :: valL k ++ L).dropWhile spB = 107 :: (UInt8.ofNat (48 + d) :: valL k ++ L) := by simp [spB]
      rw [e] at hab
      rw [← (List.cons.inj hab).1]
      decide⟩
  · rw [h]
    exact ⟨⟨32, _, rfl, Or.inl rfl⟩, fun a b hab => by
      have e : ([32, 32] ++ 107 :: UInt8.ofNat (48 + d) :: valL k ++ L).dropWhile spB = 107 :: (UInt8.ofNat (48 + d) :: valL k ++ L) := by simp [spB]
      rw [e] at hab
      rw [← (List.cons.inj hab).1]
      decide⟩
theorem After.atts (slash : Bool) (x : UInt8) (y : List UInt8) : ∀ (d : Nat) (l : List UInt8), After (attsL d l ++ (endL slash ++ x :: y))
  | d, [] => After.fin slash x y
  | d, k :: r => by
    show After (attL d k ++ attsL (d + 1) r ++ _)
    rw [List.append_assoc]
    exact After.att d k _

theorem digit_an (d : Nat) (h : d < 10) : anB (UInt8.ofNat (48 + d)) = true := by
  have : ∀ d : Fin 10, anB (UInt8.ofNat (48 + d.1)) = true := by decide
  exact this ⟨d, h⟩

/-- The name of an attribute. -/
theorem name_at {s : ByteArray} {i d : Nat} {V : List UInt8} (hd : d < 10) (h : FromL s i (107 :: UInt8.ofNat (48 + d) :: V)) (hV : V.takeWhile anB = []) : atN s i = some (i + 2) := by
  have h1 := h.tl.lt
  unfold atN
  rw [dif_pos h1, h.hd (by omega), if_pos (by decide), h.tl.run, List.takeWhile_cons_of_pos (digit_an d hd), hV]
  rfl

theorem not_an {V : List UInt8} {c : UInt8} {r : List UInt8} (h : V = c :: r) (hc : anB c = false) : V.takeWhile anB = [] := by
  rw [h, List.takeWhile_cons_of_neg (by rw [hc]; exact Bool.false_ne_true)]
theorem rn_at {s : ByteArray} {i : Nat} {c : UInt8} {r : List UInt8} {P : UInt8 → Bool} (h : FromL s i (c :: r)) (hc : P c = false) : rn P s i = i := by
  rw [h.run, List.takeWhile_cons_of_neg (by rw [hc]; exact Bool.false_ne_true)]
  rfl
theorem sep_an {c : UInt8} (h : Sep c) : anB c = false ∧ ldhB c = false ∧ uqB c = false := by
  rcases sep_list0 h with rfl | rfl | rfl <;> decide
theorem extract_end (s : ByteArray) (j : Nat) : (s.extract j s.size).data.toList = s.data.toList.drop j := by
  rw [Lib.extract_data, List.take_of_length_le]
  rw [List.length_drop]
  have e : s.data.toList.length = s.size := rfl
  omega

theorem attr_at {s : ByteArray} {i d : Nat} {k : UInt8} {L : List UInt8} (hd : d < 10) (hL : After L) (h : FromL s i (attL d k ++ L)) : Attr s i (i + (attL d k).length) := by
  obtain ⟨⟨c, r, hcr, hsep⟩, hno⟩ := hL
  obtain ⟨n1, n2, n3⟩ := sep_an hsep
  have hlen : (attL d k).length = (sepL k).length + 2 + (valL k).length := by
    simp only [attL, List.length_append, List.length_cons]
    omega
  have h0 : FromL s i (sepL k ++ (107 :: UInt8.ofNat (48 + d) :: (valL k ++ L))) := by
    have : attL d k ++ L = sepL k ++ (107 :: UInt8.ofNat (48 + d) :: (valL k ++ L)) := by simp [attL]
    rwa [this] at h
  have hr : rn spB s i = i + (sepL k).length := by
    rw [h0.run]
    rcases sepL_cases k with e | e | e <;> rw [e] <;> simp [spB]
  have h1 := h0.app
  obtain ⟨a, ha⟩ : ∃ a, i + (sepL k).length = a := ⟨_, rfl⟩
  rw [ha] at hr h1
  have hV : (valL k ++ L).takeWhile anB = [] := by
    rcases valL_cases k with e | e | e | e <;> rw [e]
    · exact not_an rfl (by decide)
    · exact not_an rfl (by decide)
    · exact not_an rfl (by decide)
    · exact not_an (by rw [List.nil_append]; exact hcr) n1
  have hN := name_at hd h1 hV
  have h2 := h1.tl.tl
  refine ⟨a + 2, by rw [hr]; exact hN, ?_⟩
  rcases valL_cases k with e | e | e | e
  · rw [e] at h2 hlen
    refine Or.inl ⟨a + 2, ⟨rn_at h2 (by decide), h2.tl.lt, fun hx => by rw [h2.hd hx]; rfl⟩, ?_⟩
    have h3 := h2.tl
    rw [rn_at h3 (by decide)]
    have hsz := FromL.app (x := [34, 118, 32, 62, 32, 119, 34]) h3
    rw [hcr] at hsz
    have hsz := hsz.lt
    simp only [List.length_cons, List.length_nil] at hsz hlen
    exact Or.inl ⟨5, ⟨h3.lt, Or.inr (by rw [h3.hd h3.lt]; rfl), by rw [extract_end, h3.hd h3.lt, show s.data.toList.drop (a + 2 + 1 + 1) = _ from h3.tl]; rfl, by omega⟩, by omega⟩
  · rw [e] at h2 hlen
    refine Or.inl ⟨a + 2, ⟨rn_at h2 (by decide), h2.tl.lt, fun hx => by rw [h2.hd hx]; rfl⟩, ?_⟩
    have h3 := h2.tl
    rw [rn_at h3 (by decide)]
    exact Or.inl ⟨4, ⟨h3.lt, Or.inl (by rw [h3.hd h3.lt]; rfl), by rw [extract_end, h3.hd h3.lt, show s.data.toList.drop (a + 2 + 1 + 1) = _ from h3.tl]; rfl, by have := (FromL.app (x := [39, 118, 32, 34, 119, 39]) h3); rw [hcr] at this; have := this.lt; simp only [List.length_cons, List.length_nil] at this; omega⟩, by simp only [List.length_cons, List.length_nil] at hlen; omega⟩
  · rw [e] at h2 hlen
    have h3 := h2.tl
    have hr3 : rn spB s (a + 2) = a + 3 := by rw [h2.run]; simp [spB]
    have hr5 : rn spB s (a + 3 + 1) = a + 5 := by rw [h3.tl.run]; simp [spB]
    refine Or.inl ⟨a + 3, ⟨hr3, h3.tl.lt, fun hx => by rw [h3.hd hx]; rfl⟩, ?_⟩
    rw [hr5]
    have h5 : FromL s (a + 5) (118 :: c :: r) := by
      have := h3.tl.tl
      rw [hcr] at this
      exact this
    refine Or.inr ⟨h5.lt, by rw [h5.hd h5.lt]; decide, by rw [h5.hd h5.lt]; decide, ?_, ?_⟩
    · rw [h5.run]
      have : (118 :: c :: r).takeWhile uqB = [118] := by
        rw [List.takeWhile_cons_of_pos (by decide), List.takeWhile_cons_of_neg (by rw [n3]; exact Bool.false_ne_true)]
      rw [this]
      simp only [List.length_cons, List.length_nil] at hlen ⊢
      omega
    · simp only [List.length_cons, List.length_nil] at hlen
      omega
  · rw [e] at h2 hlen
    rw [List.nil_append] at h2
    refine Or.inr ⟨by simp only [List.length_nil] at hlen; omega, ?_⟩
    have hle : a + 2 ≤ s.size := by
      have := h1.tl.lt
      omega
    have hsplit : L = L.takeWhile spB ++ L.dropWhile spB := (List.takeWhile_append_dropWhile).symm
    rw [h2.run]
    have h3 : FromL s (a + 2) (L.takeWhile spB ++ L.dropWhile spB) := by rw [← hsplit]; exact h2
    have h4 := h3.app
    cases hdw : L.dropWhile spB with
    | nil =>
      rw [hdw] at h4
      have h5 : s.data.toList.length ≤ a + 2 + (L.takeWhile spB).length := List.drop_eq_nil_iff.1 h4
      have e1 : s.data.toList.length = s.size := rfl
      exact Or.inl (by omega)
    | cons x y =>
      rw [hdw] at h4
      refine Or.inr ⟨h4.lt, ?_⟩
      rw [h4.hd h4.lt]
      have := hno x y hdw
      exact fun e => this (UInt8.toNat_inj.1 e)

theorem chain_at {s : ByteArray} {slash : Bool} {x : UInt8} {y : List UInt8} : ∀ (l : List UInt8) (d i : Nat), d + l.length ≤ 10 → i ≤ s.size → FromL s i (attsL d l ++ (endL slash ++ x :: y)) → Chain s l.length i (i + (attsL d l).length)
  | [], d, i, _, _, _ => Chain.done i
  | k :: r, d, i, hd, hi, h => by
    have e : attsL d (k :: r) ++ (endL slash ++ x :: y) = attL d k ++ (attsL (d + 1) r ++ (endL slash ++ x :: y)) := by simp [attsL]
    rw [e] at h
    have hd' : d + (r.length + 1) ≤ 10 := hd
    obtain ⟨⟨c, t, hct, hsep⟩, _⟩ := After.att d k (attsL (d + 1) r ++ (endL slash ++ x :: y))
    have h0 := h
    rw [hct] at h0
    have h1 := h.app
    have hsz := h.size hi
    have hle : i + (attL d k).length ≤ s.size := by
      rw [List.length_append] at hsz
      omega
    have ih := chain_at (slash := slash) (x := x) (y := y) r (d + 1) (i + (attL d k).length) (by omega) hle h1
    have el : (attsL d (k :: r)).length = (attL d k).length + (attsL (d + 1) r).length := by simp [attsL]
    rw [el, ← Nat.add_assoc]
    exact Chain.step h0.lt (by rw [h0.hd h0.lt]; exact hsep) (attr_at (by omega) (After.atts slash x y (d + 1) r) h) hle ih
end Go.Proofs.YtdnlfdppjfjncaaGreatDoor

/- The laws' own functions over bytes: slashed, times, full, ascii, plain. -/
namespace Go.Proofs.YtdnlfdppjfjncaaGreatDoor
open Go Go.RowKit Go.Proofs

/-- append of a byte to a row of the call's own (from block B on). -/
theorem ap_u8 {w : World} {ops : Array Oper} {rest : List Oper} {o : Oper} {a : Act} {Q : Exit → Act → World → Prop} (hgd : o.guard = none) (s x : Operand) (ho : o.op = .call { callee := .builtin .append, args := #[s, x], argTypes := #[35, 35] })
    (B : Nat) (hB : B ≤ w.heap.size) (v : Value) (n : Nat) (xs : List Value) (hs : a.eval s = v) (hown : w.ownsRow B 5 1 v n xs)
    (b c : Nat) (u : Int) (hx : a.eval x = .slice (some ⟨b, 0, none⟩) 1 c) (hu : w.cell? ⟨b, 0, none⟩ = some (.int .u8 u)) (hn : n ≤ 1000000)
    (h : ∀ g cap w', w'.ownsRow B 5 1 (.slice (some ⟨g, 0, none⟩) (n + 1) cap) (n + 1) (xs ++ [.int .u8 u]) → w.grownBy w' v.ownBlock → wpList Tryz.prog ops Q rest (a.put o.dst (.slice (some ⟨g, 0, none⟩) (n + 1) cap)) w') : wpList Tryz.prog ops Q (o :: rest) a w := by
  have hi : (Tryz.prog.info? 5).map (fun i => (i.zero, i.size, i.bytes)) = some (some (.int .u8 0), 1, 1) := by kernel_rfl
  obtain ⟨i0, hi0, hz⟩ := Option.map_eq_some_iff.1 hi
  simp only [Prod.mk.injEq] at hz
  obtain ⟨hz0, hz1, hz2⟩ := hz
  refine wpList_append_lies w hgd s x 35 ho B 5 i0 (.int .u8 0) 1 1 Tryz.underlying35 hi0 hz0 hz1 hz2 rfl (by decide) v n xs hs hown ⟨b, 0, none⟩ 1 c [.int .u8 u] hx rfl ?_ ?_ (by omega) (by unfold maxLen; omega) ?_ hB _ rfl (fun g cap w' h2 h3 _ _ => h g cap w' h2 h3)
  · intro j y hy
    match j, hy with
    | 0, hy => simp at hy; subst hy; simpa [Addr.add_lit] using hu
  · intro y hy; simp at hy; subst hy; rfl
  · omega

theorem grown_below {w W w' : World} {v : Value} {n : Nat} {xs : List Value} (hm : Below w.heap.size w W) (hown : W.ownsRow w.heap.size 5 1 v n xs) (h : W.grownBy w' v.ownBlock) : Below w.heap.size w w' :=
  hm.grown h hm.size (fun k hk => (hown.lt k hk).1)

set_option maxHeartbeats 4000000 in
theorem slashed_any (s : ByteArray) (w : World) (hs : s.size ≤ 400000) :
    Calls Tryz.prog 31 #[.string s] w fun e w' => e = .returned (.string (slT s)) ∧ Same w w' := by
  go_enter Tryz.func31, Tryz.ntmps31
  go_wp2_with fail
  generalize hW : (w.alloc _ : World) = W
  have hm : Below w.heap.size w W := by subst hW; exact (Below.refl _ w).alloc (Nat.le_refl _) _
  have hown : W.ownsRow w.heap.size 5 1 (.slice (some ⟨w.heap.size, 0, none⟩) 0 0) (slL (s.data.toList.take 0)).length (Lib.byteCells (slL (s.data.toList.take 0))) := by
    subst hW; exact World.ownsRow_lit w #[] 0 (Nat.le_refl _) (Nat.zero_le _) rfl
  clear hW
  go_loopg [3, 4] s.size (fun k v i wr => ∃ j g cap : Nat, i = .int .i64 j ∧ k = s.size - j ∧ j ≤ s.size ∧ v = .slice (some ⟨g, 0, none⟩) (slL (s.data.toList.take j)).length cap ∧ Below w.heap.size w wr ∧ wr.ownsRow w.heap.size 5 1 (.slice (some ⟨g, 0, none⟩) (slL (s.data.toList.take j)).length cap) (slL (s.data.toList.take j)).length (Lib.byteCells (slL (s.data.toList.take j))))
  case atStart => exact ⟨0, w.heap.size, 0, rfl, rfl, Nat.zero_le _, rfl, hm, hown⟩
  case round =>
    clear hm hown
    obtain ⟨j, g, cap, rfl, rfl, hj, rfl, hm, hown⟩ := hrel
    have hl := (slL_len (s.data.toList.take j)).2
    have hl2 : (s.data.toList.take j).length ≤ j := List.length_take_le _ _
    have HM := Lib.hid hm
    have hz := hm.size
    by_cases hlt : j < s.size
    · have w1 : (j : Int) < s.size := by omega
      have w2 : (0 : Int) ≤ j := by omega
      have w3 : IntKind.i64.wrap ((j : Int) + 1) = (j : Int) + 1 := IntWalk.i64_in _ (by omega)
      have hsucc := slL_take s j hlt
      have HS := Lib.hid hsucc
      have hn1 : (slL (s.data.toList.take j)).length ≤ 800000 := by omega
      clear hsucc hm hl hl2
      generalize hL : slL (s.data.toList.take j) = L at *
      clear hL
      by_cases hp : punct s[j] = true
      · have HP : Hid (slB s[j] = [92] ++ [s[j]]) := by show slB _ = _; unfold slB; rw [if_pos hp]; rfl
        go_wp2_with fail
        refine (spec_IsPunct s[j] wr).mono ?_
        rintro e w' ⟨rfl, rfl⟩
        rw [hp]
        clear hp
        go_wp2_with (at_builtin; refine ap_u8 rfl _ _ rfl w.heap.size ?c0 _ L.length (Lib.byteCells L) rfl (hown.alloc _) wr.heap.size 1 92 rfl ((Blk.newAt _ _ rfl).cell 0) ?c1 ?_)
        case c0 => simp; omega
        case c1 => omega
        intro g1 cap1 wa hown1 hg1
        have hm1 : Below w.heap.size w wa := grown_below (HM.out.alloc (by omega) _) (hown.alloc _) hg1
        have hz1 := hm1.size
        clear hown hg1
        go_wp2_with (at_builtin; refine ap_u8 rfl _ _ rfl w.heap.size ?c0 _ (L.length + 1) (Lib.byteCells L ++ [.int .u8 92]) rfl (hown1.alloc _) wa.heap.size 1 (s[j].toNat : Int) rfl ((Blk.newAt _ _ rfl).cell 0) ?c1 ?_)
        case c0 => simp; omega
        case c1 => omega
        intro g2 cap2 wb hown2 hg2
        have hm2 : Below w.heap.size w wb := grown_below (hm1.alloc (by omega) _) (hown1.alloc _) hg2
        have he : slL (s.data.toList.take (j + 1)) = L ++ [92] ++ [s[j]] := by rw [HS.out, HP.out, List.append_assoc]
        have hcells : Lib.byteCells L ++ [Value.int .u8 92, Value.int .u8 (s[j].toNat : Int)] = Lib.byteCells (slL (s.data.toList.take (j + 1))) := by rw [he]; simp [Lib.byteCells]
        have hlen : L.length + 1 + 1 = (slL (s.data.toList.take (j + 1))).length := by rw [he]; simp
        rw [hcells] at hown2
        rw [hlen] at hown2 ⊢
        clear hcells hlen he hown1 hg2 hm1
        go_wp2_with fail
        go_roundg (s.size - (j + 1))
        case measure => omega
        case rel => exact ⟨j + 1, g2, cap2, rfl, rfl, by omega, rfl, hm2, hown2⟩
      · have hp' : punct s[j] = false := by simpa using hp
        have HP : Hid (slB s[j] = [s[j]]) := by show slB _ = _; unfold slB; rw [if_neg hp]
        go_wp2_with fail
        refine (spec_IsPunct s[j] wr).mono ?_
        rintro e w' ⟨rfl, rfl⟩
        rw [hp']
        clear hp hp'
        go_wp2_with (at_builtin; refine ap_u8 rfl _ _ rfl w.heap.size ?c0 _ L.length (Lib.byteCells L) rfl (hown.alloc _) wr.heap.size 1 (s[j].toNat : Int) rfl ((Blk.newAt _ _ rfl).cell 0) ?c1 ?_)
        case c0 => simp; omega
        case c1 => omega
        intro g2 cap2 wb hown2 hg2
        have hm2 : Below w.heap.size w wb := grown_below (HM.out.alloc (by omega) _) (hown.alloc _) hg2
        have he : slL (s.data.toList.take (j + 1)) = L ++ [s[j]] := by rw [HS.out, HP.out]
        have hcells : Lib.byteCells L ++ [Value.int .u8 (s[j].toNat : Int)] = Lib.byteCells (slL (s.data.toList.take (j + 1))) := by rw [he]; simp [Lib.byteCells]
        have hlen : L.length + 1 = (slL (s.data.toList.take (j + 1))).length := by rw [he]; simp
        rw [hcells] at hown2
        rw [hlen] at hown2 ⊢
        clear hcells hlen he hown hg2
        go_wp2_with fail
        go_roundg (s.size - (j + 1))
        case measure => omega
        case rel => exact ⟨j + 1, g2, cap2, rfl, rfl, by omega, rfl, hm2, hown2⟩
    · have w1 : ¬ ((j : Int) < s.size) := by omega
      have hjs : j = s.size := by omega
      have hall : s.data.toList.take j = s.data.toList := List.take_of_length_le (by rw [hjs]; exact Nat.le_refl _)
      rw [hall] at hown ⊢
      clear hall hl hl2 hm
      have hcv := run_convert_bytes_back (P := Tryz.prog) wr 35 9 5 ⟨g, 0, none⟩ cap (slL s.data.toList) Tryz.underlying35 Tryz.underlying5 Tryz.underlying9 (fun i hi => by
        have h1 := hown.cellAt i (by omega)
        rw [Addr.add_lit, Nat.zero_add, h1]
        simp [Lib.byteCells, hi])
      go_wp2_with fail
      go_ret
      exact ⟨rfl, Below.mods (S := fun _ => False) HM.out (fun k hk hk2 => absurd hk (by omega))⟩
end Go.Proofs.YtdnlfdppjfjncaaGreatDoor

/- The laws' own functions: times, full, ascii, plain. -/
namespace Go.Proofs.YtdnlfdppjfjncaaGreatDoor
open Go Go.RowKit Go.Proofs

/-- A text n times. -/
def repT (s : ByteArray) (n : Nat) : ByteArray := strL (List.replicate n s.data.toList).flatten

theorem repT_succ (s : ByteArray) (n : Nat) : repT s (n + 1) = repT s n ++ s := by
  unfold repT
  rw [List.replicate_succ', List.flatten_append, ← strL_app]
  have : strL (List.flatten [s.data.toList]) = s := by simp [strL]
  rw [this]
theorem repT_size (s : ByteArray) : ∀ n, (repT s n).size = n * s.size
  | 0 => by simp [repT, strL_size]
  | n + 1 => by rw [repT_succ, ByteArray.size_append, repT_size s n, Nat.succ_mul]

set_option maxHeartbeats 4000000 in
theorem times_any (s : ByteArray) (n : Nat) (w : World) (hs : s.size ≤ 100) (hn : n ≤ 1000) :
    Calls Tryz.prog 23 #[.string s, .int .i64 n] w fun e w' => e = .returned (.string (repT s n)) ∧ w = w' := by
  have h0 : repT s 0 = (⟨#[]⟩ : ByteArray) := rfl
  have H0 := Lib.hid h0
  clear h0
  go_enter Tryz.func23, Tryz.ntmps23
  go_wp2_with fail
  go_loopg [5, 7] n (fun k o i wr => ∃ j : Nat, o = .string (repT s j) ∧ i = .int .i64 j ∧ k = n - j ∧ j ≤ n ∧ w = wr)
  case atStart => exact ⟨0, by rw [H0.out], rfl, rfl, Nat.zero_le _, rfl⟩
  case round =>
    obtain ⟨j, rfl, rfl, rfl, hj, rfl⟩ := hrel
    have hz : (repT s j).size ≤ 100000 := by
      rw [repT_size]
      exact Nat.le_trans (Nat.mul_le_mul hj hs) (by omega)
    by_cases hlt : j < n
    · have w1 : (j : Int) < n := by omega
      have w3 : IntKind.i64.wrap ((j : Int) + 1) = (j : Int) + 1 := IntWalk.i64_in _ (by omega)
      have HS := Lib.hid (repT_succ s j)
      go_wp2_with fail
      go_roundg (n - (j + 1))
      case measure => omega
      case rel => exact ⟨j + 1, by rw [HS.out], rfl, rfl, by omega, rfl⟩
    · have w1 : ¬ ((j : Int) < n) := by omega
      have hjn : j = n := by omega
      subst hjn
      go_wp2_with fail
      go_ret
      exact ⟨rfl, rfl⟩

set_option maxHeartbeats 4000000 in
theorem full_any (s : ByteArray) (w : World) (hs : s.size ≤ 2147483647) :
    Calls Tryz.prog 30 #[.string s] w fun e w' => e = .returned (.bool (fillOk s)) ∧ w = w' := by
  by_cases h : 0 < s.size
  · have hf : fillOk s = ((!((s[0].toNat : Int) == 32)) && (!(((s[s.size - 1]'(by omega)).toNat : Int) == 32))) := by unfold fillOk; rw [dif_pos h]
    have HF := Lib.hid hf
    clear hf
    have e0 : s.toList.isEmpty = false := bs_ne h
    have e0' : (!s.toList.isEmpty) = true := by rw [e0]; rfl
    have w1 : (0 : Int) < s.size := by omega
    have w2 : IntKind.i64.wrap ((s.size : Int) - 1) = (s.size : Int) - 1 := IntWalk.i64_in _ (by omega)
    have w3 : (0 : Int) ≤ (s.size : Int) - 1 := by omega
    have w4 : ((s.size : Int) - 1).toNat = s.size - 1 := by omega
    have w5 : (s.size : Int) - 1 < s.size := by omega
    go_enter Tryz.func30, Tryz.ntmps30
    go_wp2_with fail
    all_goals
      go_ret
      refine ⟨congrArg (fun b => Ending.returned (.bool b)) ?_, rfl⟩
      rw [HF.out]
      first | rfl | simp_all
  · have hf : fillOk s = false := by unfold fillOk; rw [dif_neg h]
    have hz : s = ⟨#[]⟩ := by
      apply ByteArray.ext_getElem
      · show s.size = 0; omega
      · intro i h1 h2; omega
    subst hz
    have HF := Lib.hid hf
    clear hf
    go_enter Tryz.func30, Tryz.ntmps30
    go_wp2_with fail
    go_ret
    exact ⟨by rw [HF.out]; rfl, rfl⟩

set_option maxHeartbeats 4000000 in
theorem ascii_any (s : ByteArray) (w : World) (hs : s.size ≤ 2147483647) :
    Calls Tryz.prog 22 #[.string s, .bool false] w fun e w' => e = .returned (.bool (prFrom s 0)) ∧ w = w' := by
  go_enter Tryz.func22, Tryz.ntmps22
  go_wp2_with fail
  go_loopg [5] s.size (fun k v wr => ∃ i : Nat, v = .int .i64 i ∧ k = s.size - i ∧ i ≤ s.size ∧ prFrom s i = prFrom s 0 ∧ w = wr)
  case atStart => exact ⟨0, rfl, rfl, Nat.zero_le _, rfl, rfl⟩
  case round =>
    obtain ⟨i, rfl, rfl, hi, hp, rfl⟩ := hrel
    have HP := Lib.hid hp
    clear hp
    by_cases hlt : i < s.size
    · have w1 : (i : Int) < s.size := by omega
      have w2 : (0 : Int) ≤ i := by omega
      have w3 : IntKind.i64.wrap ((i : Int) + 1) = (i : Int) + 1 := IntWalk.i64_in _ (by omega)
      have hun : prFrom s i = (32 ≤ s[i].toNat && s[i].toNat ≤ 126 && prFrom s (i + 1)) := by rw [prFrom, dif_pos hlt]
      have HU := Lib.hid hun
      clear hun
      by_cases hc : 32 ≤ s[i].toNat ∧ s[i].toNat ≤ 126
      · have c1 : ¬ ((s[i].toNat : Int) < 32) := by omega
        have c2 : ¬ ((126 : Int) < s[i].toNat) := by omega
        have Hc := Lib.hid hc
        clear hc
        go_wp2_with fail
        go_roundg (s.size - (i + 1))
        case measure => omega
        case rel => exact ⟨i + 1, by simp, rfl, by omega, by rw [← HP.out, HU.out]; simp [Hc.out.1, Hc.out.2], rfl⟩
      · have hf : prFrom s 0 = false := by
          rw [← HP.out, HU.out]
          by_cases h1 : 32 ≤ s[i].toNat
          · have : ¬ s[i].toNat ≤ 126 := fun h => hc ⟨h1, h⟩
            simp [this]
          · simp [h1]
        have HF := Lib.hid hf
        by_cases h1 : (s[i].toNat : Int) < 32
        · clear hc hf
          go_wp2_with fail
          go_ret
          exact ⟨by rw [HF.out]; rfl, rfl⟩
        · have h2 : (126 : Int) < s[i].toNat := by omega
          clear hc hf
          go_wp2_with fail
          go_ret
          exact ⟨by rw [HF.out]; rfl, rfl⟩
    · have hin : i = s.size := by omega
      have w1 : ¬ ((i : Int) < s.size) := by omega
      have ht : prFrom s 0 = true := by rw [← HP.out, hin, prFrom, dif_neg (Nat.lt_irrefl _)]
      have HT := Lib.hid ht
      clear ht
      go_wp2_with fail
      go_ret
      exact ⟨by rw [HT.out]; rfl, rfl⟩

theorem plain_any (w : World) :
    Calls Tryz.prog 25 #[] w fun e w' => e = .returned (.agg #[.bool false, .bool false, .bool false, .bool false, .bool false, .bool false, .bool false, .bool false, .bool false, .bool false]) ∧ Same w w' := by
  go_enter Tryz.func25, Tryz.ntmps25
  go_wp2_with fail
  refine bodyPost_ret (v := .agg #[.bool false, .bool false, .bool false, .bool false, .bool false, .bool false, .bool false, .bool false, .bool false, .bool false]) (by simp [results, Tryz.results25, go_sem]) rfl ⟨rfl, ?_⟩
  exact (Mods.refl _ w).alloc _
end Go.Proofs.YtdnlfdppjfjncaaGreatDoor

/- The plain law of FnSeven, and the law's walk. -/
namespace Go.Proofs.YtdnlfdppjfjncaaGreatDoor
open Go Go.RowKit Go.Proofs

theorem html_of (s : ByteArray) (w : World) (hs : OneLine s) (he : Escd s 0) (hl : ((scan s 0 0).flatMap outPc).length ≤ 9000000) :
    Calls Tryz.prog 17 #[.agg #[.bool false, .bool false, .bool false, .bool false, .bool false, .bool false, .bool false, .bool false, .bool false, .bool false], .string s] w fun e w' => e = .returned (.string (strL (pOpen ++ (scan s 0 0).flatMap outPc ++ pClose))) ∧ Same w w' := by
  have hsm := hs.small
  refine (impl_HTML s w hs (scan s 0 0) (plan_escd s (by omega) he) ?_ ?_ (scan_no_auto s _ 0 0 rfl)).mono ?_
  · intro i
    have h1 : ((scan s 0 0).take i).flatMap outPc ++ ((scan s 0 0).drop i).flatMap outPc = (scan s 0 0).flatMap outPc := by
      rw [← List.flatMap_append, List.take_append_drop]
    have h2 := congrArg List.length h1
    rw [List.length_append] at h2
    have h3 : pOpen.length = 3 := rfl
    simp only [List.nil_append, List.length_append]
    omega
  · intro u hu
    have := plan_sizes (by omega) he u hu
    omega
  · rintro e w' ⟨rfl, hm⟩
    exact ⟨rfl, hm⟩

theorem dull_92 {c : UInt8} (h : dull c = true) : c ≠ 92 := by rintro rfl; revert h; decide

theorem escd_dull (s : ByteArray) : ∀ (pre r : List UInt8) (k : Nat), (∀ c ∈ pre, dull c = true) → from_ s k = pre ++ r → Escd s (k + pre.length) → Escd s k
  | [], _, k, _, _, h => h
  | c :: pre, r, k, hd, hf, h => by
    obtain ⟨h1, e1, h2⟩ := from_cons hf
    rw [Escd, dif_pos h1]
    exact Or.inl ⟨by rw [e1]; exact hd c List.mem_cons_self, escd_dull s pre r (k + 1) (fun x hx => hd x (List.mem_cons_of_mem _ hx)) h2 (by rw [List.length_cons] at h; rwa [show k + 1 + pre.length = k + (pre.length + 1) by omega])⟩

theorem scan_dull (s : ByteArray) (e : Nat) : ∀ (pre r : List UInt8) (k : Nat), (∀ c ∈ pre, dull c = true) → from_ s k = pre ++ r → scan s k e = scan s (k + pre.length) e
  | [], _, k, _, _ => rfl
  | c :: pre, r, k, hd, hf => by
    obtain ⟨h1, e1, h2⟩ := from_cons hf
    have h92 : s[k] ≠ 92 := by rw [e1]; exact dull_92 (hd c List.mem_cons_self)
    rw [scan, dif_pos h1, if_neg h92, scan_dull s e pre r (k + 1) (fun x hx => hd x (List.mem_cons_of_mem _ hx)) h2, List.length_cons, show k + 1 + pre.length = k + (pre.length + 1) by omega]

def marks (n : Nat) : List UInt8 := List.replicate n 35 ++ [32]
theorem marks_len (n : Nat) : (marks n).length = n + 1 := by simp [marks]
theorem marks_dull (n : Nat) : ∀ c ∈ marks n, dull c = true := by
  intro c hc
  simp only [marks, List.mem_append, List.mem_replicate, List.mem_singleton] at hc
  rcases hc with ⟨_, rfl⟩ | rfl <;> decide
theorem marks_esc (n : Nat) : (marks n).flatMap escB = marks n := by
  have : ∀ m, (List.replicate m (35 : UInt8)).flatMap escB = List.replicate m 35 := by
    intro m
    induction m with
    | zero => rfl
    | succ m ih => rw [List.replicate_succ, List.flatMap_cons, ih]; rfl
  unfold marks
  rw [List.flatMap_append, this]
  rfl

def sevenT (n : Nat) (t : ByteArray) : ByteArray := strL (marks n ++ slL t.data.toList)
theorem sevenT_list (n : Nat) (t : ByteArray) : (sevenT n t).data.toList = marks n ++ slL t.data.toList := by simp [sevenT, strL]
theorem sevenT_size (n : Nat) (t : ByteArray) : (sevenT n t).size = n + 1 + (slT t).size := by
  have : (slT t).size = (slL t.data.toList).length := by show (slL t.data.toList).toArray.size = _; simp
  rw [this, sevenT, strL_size, List.length_append, marks_len]

theorem from_app {s : ByteArray} {a b : List UInt8} (h : s.data.toList = a ++ b) : from_ s a.length = b := by
  unfold from_
  rw [h, List.drop_append_of_le_length (Nat.le_refl _), List.drop_length, List.nil_append]

theorem sevenT_line (n : Nat) (t : ByteArray) (hn : 7 ≤ n) (hn2 : n ≤ 1000) (hp : prFrom t 0 = true) (hf : fillOk t = true) (hs : t.size ≤ 400000) : OneLine (sevenT n t) := by
  obtain ⟨h0, hf1, hf2⟩ := fill_first hf
  have hO := oneLine_sl t hp hf hs
  have hsz := sevenT_size n t
  have hs2 := slT_size t
  have hpos : 0 < (sevenT n t).size := by omega
  have hl := sevenT_list n t
  have hget : ∀ i (hi : i < (sevenT n t).size), i < n → (sevenT n t)[i] = 35 := by
    intro i hi hin
    have hg := get_of hi
    rw [hl, List.getElem?_append_left (by rw [marks_len]; omega)] at hg
    unfold marks at hg
    rw [List.getElem?_append_left (by simpa using hin), List.getElem?_replicate, if_pos hin] at hg
    exact (Option.some.inj hg).symm
  have htail : ∀ i (hi : i < (sevenT n t).size) (h2 : n + 1 ≤ i), (sevenT n t)[i] = (slT t)[i - (n + 1)]'(by omega) := by
    intro i hi h2
    have hg := get_of hi
    rw [hl, List.getElem?_append_right (by rw [marks_len]; omega), marks_len, ← slT_list] at hg
    have hg2 := get_of (s := slT t) (i := i - (n + 1)) (by omega)
    rw [hg2] at hg
    exact (Option.some.inj hg).symm
  have hmid : ∀ i (hi : i < (sevenT n t).size), i = n → (sevenT n t)[i] = 32 := by
    intro i hi hin
    have hg := get_of hi
    rw [hl, List.getElem?_append_left (by rw [marks_len]; omega)] at hg
    unfold marks at hg
    rw [List.getElem?_append_right (by simp; omega)] at hg
    subst hin
    simp at hg
    exact hg.symm
  have hn' : ∀ k : UInt8, k ≠ 35 → k ≠ 32 → (∀ i (hi : i < (slT t).size), (slT t)[i] ≠ k) → ∀ i (hi : i < (sevenT n t).size), (sevenT n t)[i] ≠ k := by
    intro k h35 h32 h i hi
    rcases Nat.lt_trichotomy i n with h1 | h1 | h1
    · rw [hget i hi h1]; exact h35.symm
    · rw [hmid i hi h1]; exact h32.symm
    · rw [htail i hi h1]; exact h _ _
  have hd35 : ∀ i, i < n → at0 (sevenT n t) i = 35 := fun i hi => by rw [at0_eq (by omega), hget i (by omega) hi]
  have hp3 : p3 (sevenT n t) 0 = 0 := by
    unfold p3 lead
    rw [dif_pos hpos, if_neg (by rw [hget 0 hpos (by omega)]; decide)]
  refine ⟨hpos, by omega, ?_, ?_, hn' 0 (by decide) (by decide) hO.no0, hn' 10 (by decide) (by decide) hO.no10, hn' 13 (by decide) (by decide) hO.no13, ?_, hn' 9 (by decide) (by decide) hO.no9, ?_⟩
  · rw [hget 0 hpos (by omega)]; rfl
  · rw [htail _ (by omega) (by omega)]
    have := hO.last
    simpa only [show (sevenT n t).size - 1 - (n + 1) = (slT t).size - 1 by omega] using this
  · rw [hget 0 hpos (by omega)]; decide
  · right
    intro u hu
    rw [hp3, Nat.zero_add]
    exact hd35 u (by omega)

theorem sevenT_escd (n : Nat) (t : ByteArray) (hp : prFrom t 0 = true) : Escd (sevenT n t) 0 := by
  have hl := sevenT_list n t
  have hsz := sevenT_size n t
  refine escd_dull _ (marks n) (slL t.data.toList) 0 (marks_dull n) (by rw [from_zero, hl]) ?_
  rw [Nat.zero_add]
  exact escd_sl _ t.data.toList _ (by rw [marks_len]; omega) (pr_list hp) (from_app hl)

theorem sevenT_scan (n : Nat) (t : ByteArray) (hp : prFrom t 0 = true) : (scan (sevenT n t) 0 0).flatMap outPc = marks n ++ t.data.toList.flatMap escB := by
  have hl := sevenT_list n t
  have hsz := sevenT_size n t
  rw [scan_dull (sevenT n t) 0 (marks n) (slL t.data.toList) 0 (marks_dull n) (by rw [from_zero, hl]), Nat.zero_add,
    scan_sl _ t.data.toList _ 0 (Nat.zero_le _) (by rw [marks_len]; omega) (pr_list hp) (from_app hl), ext_list, hl, List.drop_zero, Nat.sub_zero, List.take_left', marks_esc]
  rfl
end Go.Proofs.YtdnlfdppjfjncaaGreatDoor

/- FnEscaped answers true. -/
namespace Go.Proofs.YtdnlfdppjfjncaaGreatDoor
open Go Go.RowKit Go.Proofs

theorem paraT_app (t : ByteArray) : (⟨#[60, 112, 62]⟩ : ByteArray) ++ strL (t.data.toList.flatMap escB) ++ (⟨#[60, 47, 112, 62, 10]⟩ : ByteArray) = paraT (htmlT t) := by
  apply ByteArray.ext
  simp [strL, paraT, htmlT, pOpen, pClose]

set_option maxHeartbeats 4000000 in
theorem law_escaped (s : ByteArray) (w : World) :
    Calls Tryz.prog 4 #[.string s] w fun e w' => e = .returned (.bool true) ∧ Same w w' := by
  by_cases hbig : 2147483647 < s.size
  · have w0 : (2147483647 : Int) < s.size := by omega
    go_enter Tryz.func4, Tryz.ntmps4
    go_wp2_with fail
    go_ret
    exact ⟨rfl, Mods.refl _ _⟩
  · have w0 : ¬ (2147483647 : Int) < s.size := by omega
    by_cases hp : (decide (s.size ≤ 200) && prFrom s 0) = true
    · have hs : s.size ≤ 200 := by simp at hp; exact hp.1
      have hpr : prFrom s 0 = true := by simp at hp; exact hp.2
      by_cases hf : fillOk s = true
      · have hlen := escB_len s.data.toList
        have hsz := strL_size (s.data.toList.flatMap escB)
        have e1 : s.data.toList.length = s.size := rfl
        have hb : (strL (s.data.toList.flatMap escB)).size ≤ 1200 := by omega
        clear hlen hsz e1
        have HPT := Lib.hid (paraT_app s)
        go_enter Tryz.func4, Tryz.ntmps4
        go_wp2_with fail
        refine (printable_any s 200 w (by omega)).mono ?_
        rintro e w' ⟨rfl, rfl⟩
        rw [hp]
        go_wp2_with fail
        refine (filled_any s w (by omega)).mono ?_
        rintro e w' ⟨rfl, rfl⟩
        rw [hf]
        go_wp2_with fail
        refine (escaped_any s w (by omega)).mono ?_
        rintro e w1 ⟨rfl, hm1⟩
        go_wp2_with fail
        refine (escaped_html s w1 hpr hf (by omega)).mono ?_
        rintro e w2 ⟨rfl, hm2⟩
        go_wp2_with fail
        refine (EscapeHTML_any s w2 (by omega)).mono ?_
        rintro e w' ⟨rfl, rfl⟩
        clear hp hf hpr
        go_wp2_with fail
        go_ret
        refine ⟨congrArg (fun b => Ending.returned (.bool b)) ?_, hm1.trans hm2⟩
        rw [HPT.out]
        simp
      · have hf' : fillOk s = false := by simpa using hf
        go_enter Tryz.func4, Tryz.ntmps4
        go_wp2_with fail
        refine (printable_any s 200 w (by omega)).mono ?_
        rintro e w' ⟨rfl, rfl⟩
        rw [hp]
        go_wp2_with fail
        refine (filled_any s w (by omega)).mono ?_
        rintro e w' ⟨rfl, rfl⟩
        rw [hf']
        go_wp2_with fail
        go_ret
        exact ⟨rfl, Mods.refl _ _⟩
    · have hp' : (decide (s.size ≤ 200) && prFrom s 0) = false := by simpa using hp
      go_enter Tryz.func4, Tryz.ntmps4
      go_wp2_with fail
      refine (printable_any s 200 w (by omega)).mono ?_
      rintro e w' ⟨rfl, rfl⟩
      rw [hp']
      go_wp2_with fail
      go_ret
      exact ⟨rfl, Mods.refl _ _⟩
end Go.Proofs.YtdnlfdppjfjncaaGreatDoor
