/- Some texts of one proof, put into one file: Print6, Escd, Auto3, Law1, Law2, Law3. -/
import Derived.Lib.Strings
import Derived.Test.YtdnlfdppjfjncaaGreatDoorAu4
import Derived.Test.YtdnlfdppjfjncaaGreatDoorAu7
/- ToHTML of a document of one paragraph. -/
namespace Go.Proofs.YtdnlfdppjfjncaaGreatDoor
open Go Go.RowKit Go.Proofs

set_option maxHeartbeats 4000000 in
theorem toHTML_doc (w0 : World) (rk pk tb ig ic gl n lc : Nat) (x y x' y' x2 y2 : Int) (ml : Option Nat) (s : ByteArray) (xs : List Value) (ps : List Pc)
    (hR : Blk w0 rk #[.int .i64 x2, .int .i64 y2, .slice (some ⟨ig, 0, none⟩) 1 ic, .map ml] 339) (hin : w0.ownsRow 0 68 1 (.slice (some ⟨ig, 0, none⟩) 1 ic) 1 [.iface 153 (.pointer (some ⟨pk, 0, none⟩))])
    (hP : Blk w0 pk #[.int .i64 x', .int .i64 y', .pointer (some ⟨tb, 0, none⟩)] 155)
    (hT : Blk w0 tb #[.int .i64 x, .int .i64 y, .slice (some ⟨gl, 0, none⟩) n lc, .string s] 110) (hown : w0.ownsRow 0 132 1 (.slice (some ⟨gl, 0, none⟩) n lc) n xs) (hx : PcsAt w0 xs ps) (hn : 0 < n) (hn6 : n ≤ 1000000)
    (hlim : ∀ i, ((([] : List UInt8) ++ pOpen) ++ (ps.take i).flatMap outPc).length ≤ 10000000) (hsz : ∀ t, Pc.plain t ∈ ps ∨ Pc.esc t ∈ ps ∨ Pc.tag t ∈ ps → t.size ≤ 1000000) (hau : ∀ t u, Pc.auto t u ∈ ps → t.size ≤ 100000 ∧ u.size ≤ 100000) :
    Calls Tryz.prog 37 #[.iface 48 (.pointer (some ⟨rk, 0, none⟩))] w0 fun e w' => e = .returned (.string ⟨(pOpen ++ ps.flatMap outPc ++ pClose).toArray⟩) ∧ Same w0 w' := by
  have m1 := m_print_doc
  go_enter Tryz.func37, Tryz.ntmps37
  go_wp2_with fail
  have hS : Same w0 (w0.alloc (.cells #[.slice none 0 0, .int .i64 0, .int .i8 0] 72)) := (Mods.refl _ w0).alloc _
  have hF := Lib.fresh_isBuffer 72 5 w0
  generalize hW : (w0.alloc _ : World) = W at *
  refine (doc_print w0 w0.heap.size w0.heap.size rk pk tb ig ic gl n lc x y x' y' x2 y2 ml s [] xs ps W hS rfl hF hR hin hP hT hown hx hn hn6 hlim hsz hau).mono ?_
  rintro e w1 ⟨rfl, h1⟩
  have hS1 := Wrote.same hS rfl h1
  go_wp2_with fail
  refine (Tryz.Buffer_String w0.heap.size w0.heap.size _ w1 h1.buf).mono ?_
  rintro e w2 ⟨rfl, k, rfl⟩
  go_wp2_with fail
  go_ret
  exact ⟨rfl, hS1.drewN k⟩

def allOff : Value := .agg #[.bool false, .bool false, .bool false, .bool false, .bool false, .bool false, .bool false, .bool false, .bool false, .bool false]

set_option maxHeartbeats 4000000 in
theorem impl_HTML_of (s : ByteArray) (w : World) (hs9 : s.size ≤ 900000) (all : List Pc)
    (hparse : ∀ (pp : Nat) (w1 : World), Off w1 pp → Calls Tryz.prog 39 #[.pointer (some ⟨pp, 0, none⟩), .string s] w1 fun e w' => ∃ bp rk, e = .returned (.pointer (some ⟨rk, 0, none⟩)) ∧ DocAt w1 w' bp rk pp s all)
    (hlim : ∀ i, ((([] : List UInt8) ++ pOpen) ++ ((all).take i).flatMap outPc).length ≤ 10000000) (hsz : ∀ t, Pc.plain t ∈ all ∨ Pc.esc t ∈ all ∨ Pc.tag t ∈ all → t.size ≤ 1000000) (hau : ∀ t u, Pc.auto t u ∈ all → t.size ≤ 100000 ∧ u.size ≤ 100000) :
    Calls Tryz.prog 17 #[.agg #[.bool false, .bool false, .bool false, .bool false, .bool false, .bool false, .bool false, .bool false, .bool false, .bool false], .string s] w fun e w' => e = .returned (.string ⟨(pOpen ++ (all).flatMap outPc ++ pClose).toArray⟩) ∧ Same w w' := by
  go_enter Tryz.func17, Tryz.ntmps17
  go_wp2_with fail
  generalize hW : (w.alloc _ : World) = W
  have hm : Same w W := by subst hW; exact (Mods.refl _ w).alloc _
  clear hW
  refine (impl_parser W).mono ?_
  rintro e w1 ⟨pp, rfl, hm1, _, hO⟩
  go_wp2_with fail
  refine (hparse pp w1 hO).mono ?_
  rintro e w2 ⟨bp, rk, rfl, hD⟩
  obtain ⟨hm2, _, pk, tb, ig, ic, gl, n, lc, xs, x, y, x2, y2, a1, a2, a3, a4, a5, a6, a7, a8⟩ := hD
  go_wp2_with fail
  refine (toHTML_doc w2 rk pk tb ig ic gl n lc x2 y2 x2 y2 x y none s xs (all) a1 a2 a3 a4 a7 a8 a5 (by omega) hlim hsz hau).mono ?_
  rintro e w3 ⟨rfl, hm3⟩
  go_wp2_with fail
  go_ret
  exact ⟨rfl, ((hm.trans hm1).trans hm2).trans hm3⟩

theorem impl_HTML (s : ByteArray) (w : World) (hs : OneLine s) (all : List Pc) (hg : Plan s 0 0 all)
    (hlim : ∀ i, ((([] : List UInt8) ++ pOpen) ++ ((all).take i).flatMap outPc).length ≤ 10000000) (hsz : ∀ t, Pc.plain t ∈ all ∨ Pc.esc t ∈ all ∨ Pc.tag t ∈ all → t.size ≤ 1000000) (hau : ∀ t u, Pc.auto t u ∉ all) :
    Calls Tryz.prog 17 #[.agg #[.bool false, .bool false, .bool false, .bool false, .bool false, .bool false, .bool false, .bool false, .bool false, .bool false], .string s] w fun e w' => e = .returned (.string ⟨(pOpen ++ (all).flatMap outPc ++ pClose).toArray⟩) ∧ Same w w' :=
  impl_HTML_of s w (by have := hs.small; omega) all (fun pp w1 hO => parser_Parse pp s w1 hs all hg hO) hlim hsz (fun t u h => absurd h (hau t u))
end Go.Proofs.YtdnlfdppjfjncaaGreatDoor

/- A text of dull bytes, of signs behind a backslash, and of line feeds between other bytes: how inline reads it. -/
namespace Go.Proofs.YtdnlfdppjfjncaaGreatDoor
open Go Go.RowKit Go.Proofs

/-- The text is made of dull bytes and of signs behind a backslash. -/
def Escd (s : ByteArray) (k : Nat) : Prop :=
  if h : k < s.size then
    (dull s[k] = true ∧ Escd s (k + 1)) ∨ (s[k] = 92 ∧ (∃ h' : k + 1 < s.size, punct s[k + 1] = true) ∧ Escd s (k + 2))
  else k = s.size
termination_by s.size - k

/-- The pieces of such a text from k on; from e on nothing has been emitted. -/
def scan (s : ByteArray) (k e : Nat) : List Pc :=
  if h : k < s.size then
    (if s[k] = 92 then (if e < k then [.plain (s.extract e k)] else []) ++ .esc (s.extract (k + 1) (k + 2)) :: scan s (k + 2) (k + 2) else scan s (k + 1) e)
  else (if e < k then [.plain (s.extract e k)] else [])
termination_by s.size - k

theorem scan_end {s : ByteArray} {e : Nat} : scan s s.size e = if e < s.size then [Pc.plain (s.extract e s.size)] else [] := by
  rw [scan, dif_neg (Nat.lt_irrefl _)]

theorem esc_call (s : ByteArray) (k : Nat) (hk : k + 1 < s.size) (hs : s.size ≤ 1000000) (hp : punct s[k + 1] = true) : PieceCall s k 75 (.esc (s.extract (k + 1) (k + 2))) k (k + 2) := by
  intro bp q W hq
  refine (parseEscape_punct _ s k W hk hs hp).mono ?_
  rintro e w' ⟨b, h1, h2, h3, h4⟩
  exact ⟨b, q.corner, h1, h2.mono (fun _ _ h => h.elim), hq.same h2, h3, h4⟩

theorem plan_of_escd (s : ByteArray) (hs : s.size ≤ 1000000) : ∀ (n k e : Nat), s.size - k = n → e ≤ k → k ≤ s.size → Escd s k → Plan s k e (scan s k e) := by
  intro n
  induction n using Nat.strongRecOn with
  | ind n ih =>
    intro k e hn he hk hg
    by_cases hlt : k < s.size
    · rw [Escd, dif_pos hlt] at hg
      rcases hg with ⟨hd, hg⟩ | ⟨h92, ⟨hk1, hp⟩, hg⟩
      · have h92 : s[k] ≠ 92 := by intro h; rw [h] at hd; revert hd; decide
        rw [scan, dif_pos hlt, if_neg h92]
        exact Plan.dull hlt hd (ih _ (by omega) (k + 1) e rfl (by omega) hlt hg)
      · rw [scan, dif_pos hlt, if_pos h92]
        exact Plan.piece hlt _ (Or.inl ⟨h92, rfl⟩) _ k (k + 2) he (Nat.le_refl _) (by omega) (by omega) (esc_call s k hk1 hs hp) (fun _ h => by cases h) (ih _ (by omega) (k + 2) (k + 2) rfl (Nat.le_refl _) (by omega) hg)
    · have hks : k = s.size := by omega
      subst hks
      rw [scan_end]
      exact Plan.fin e
theorem plan_escd (s : ByteArray) (hs : s.size ≤ 1000000) (hg : Escd s 0) : Plan s 0 0 (scan s 0 0) := plan_of_escd s hs _ 0 0 rfl (Nat.le_refl _) (Nat.zero_le _) hg
end Go.Proofs.YtdnlfdppjfjncaaGreatDoor

/- An automatic link: `<scheme:rest>` is the whole text. -/
namespace Go.Proofs.YtdnlfdppjfjncaaGreatDoor
open Go Go.RowKit Go.Proofs

/-- The whole text is an automatic link; the colon stands at place m. -/
structure Uri (s : ByteArray) (m : Nat) : Prop where
  sch : Sch s m
  two : 3 ≤ m
  most : m ≤ 33
  room : m + 2 ≤ s.size
  rest : ∀ j (h : j < s.size), m < j → j + 1 < s.size → 32 < s[j].toNat ∧ s[j].toNat ≠ 60 ∧ s[j].toNat ≠ 62
  close : ∀ h : s.size - 1 < s.size, s[s.size - 1] = 62

theorem isURL_yes (c : UInt8) (h1 : 32 < c.toNat) (h2 : c.toNat ≠ 60) (h3 : c.toNat ≠ 62) (w : World) : Calls Tryz.prog 159 #[.int .u8 c.toNat] w fun e w' => e = .returned (.bool true) ∧ w = w' := by
  have w1 : (32 : Int) < c.toNat := by omega
  have w2 : ((c.toNat : Int) != 60) = true := bne_iff_ne.2 (by omega)
  have w3 : ((c.toNat : Int) != 62) = true := bne_iff_ne.2 (by omega)
  clear h1 h2 h3
  go_enter Tryz.func159, Tryz.ntmps159
  go_wp2_with fail
  go_ret
  exact ⟨rfl, rfl⟩
theorem isURL_gt (w : World) : Calls Tryz.prog 159 #[.int .u8 62] w fun e w' => e = .returned (.bool false) ∧ w = w' := by
  go_enter Tryz.func159, Tryz.ntmps159
  go_wp2_with fail
  go_ret
  exact ⟨rfl, rfl⟩

set_option maxHeartbeats 4000000 in
theorem uri_yes (s : ByteArray) (m : Nat) (w : World) (hU : Uri s m) :
    Calls Tryz.prog 111 #[.string s, .int .i64 0] w fun e w' => ∃ b, e = .returned (.tuple #[.iface 262 (.pointer (some ⟨b, 0, none⟩)), .int .i64 s.size, .bool true]) ∧ Same w w' ∧ w.heap.size ≤ b ∧
      Blk w' b #[.string (s.extract 1 (s.size - 1)), .string (s.extract 1 (s.size - 1))] 264 := by
  have hS := hU.sch
  have h1 := hU.two
  have h2 := hU.room
  have h3 := hS.small
  have h4 := hU.most
  have w1 : ¬ ((s.size : Int) ≤ 1) := by omega
  have w2 : (0 : Int) < s.size := by omega
  have w3 : (1 : Int) < s.size := by omega
  have d0 : ((s[0].toNat : Int) != 60) = false := by rw [hS.open_ (by omega)]; rfl
  have hl1 := hS.ltr 1 (by omega) (by omega) (by omega)
  have HU := Lib.hid hU
  have HS := Lib.hid hS
  clear hU hS
  go_enter Tryz.func111, Tryz.ntmps111
  go_wp2_with fail
  refine (isLetter_yes _ hl1 w).mono ?_
  rintro e w' ⟨rfl, rfl⟩
  clear hl1 d0
  go_wp2_with fail
  go_loopg [7] (m - 1) (fun k v wr => ∃ j : Nat, v = .int .i64 j ∧ k = m - j ∧ 1 ≤ j ∧ j ≤ m ∧ w = wr)
  case atStart => exact ⟨1, rfl, by omega, by omega, by omega, rfl⟩
  case round =>
    obtain ⟨j, rfl, hk, hj1, hj, rfl⟩ := hrel
    have HK := Lib.hid hk
    clear hk
    have v1 : (j : Int) < s.size := by omega
    have v2 : (0 : Int) ≤ j := by omega
    have v3 : IntKind.i64.wrap ((j : Int) + 1) = (j : Int) + 1 := IntWalk.i64_in _ (by omega)
    have v4 : IntKind.i64.wrap ((j : Int) - 1) = (j : Int) - 1 := IntWalk.i64_in _ (by omega)
    have v5 : (j : Int) - 1 ≤ 32 := by omega
    by_cases hlt : j < m
    · have hl := HS.out.ltr j (by omega) (by omega) hlt
      go_wp2_with fail
      refine (isScheme_yes _ hl w).mono ?_
      rintro e w' ⟨rfl, rfl⟩
      clear hl
      go_wp2_with fail
      go_roundg (m - (j + 1))
      case measure => have := HK.out; omega
      case rel => exact ⟨j + 1, by simp, rfl, by omega, by omega, rfl⟩
    · have hjm : j = m := by omega
      subst hjm
      have hc := HS.out.colon HS.out.lt
      have v6 : ¬ ((j : Int) - 1 < 2) := by omega
      have v7 : ¬ ((32 : Int) < (j : Int) - 1) := by omega
      have v8 : ¬ ((s.size : Int) ≤ j) := by omega
      go_wp2_with fail
      refine (isScheme_colon w).mono ?_
      rintro e w' ⟨rfl, rfl⟩
      go_wp2_with fail
      have z1 : decide ((j : Int) - 1 < 2) = false := decide_eq_false (by omega)
      have z2 : decide ((32 : Int) < (j : Int) - 1) = false := decide_eq_false (by omega)
      have z3 : decide (s.size ≤ j) = false := decide_eq_false (by omega)
      simp only [z1, z2, z3, Bool.or_false]
      clear hc v1 v2 v3 v4 v5 v6 v7 v8 z1 z2 z3
      go_loopg [7] (s.size - 1 - (j + 1)) (fun k v wr => ∃ i : Nat, v = .int .i64 i ∧ k = s.size - 1 - i ∧ j + 1 ≤ i ∧ i ≤ s.size - 1 ∧ w = wr)
      case atStart => exact ⟨j + 1, by simp, by omega, by omega, by omega, rfl⟩
      case round =>
        obtain ⟨i, rfl, hk, hi1, hi, rfl⟩ := hrel
        have HK2 := Lib.hid hk
        clear hk
        have v1 : (i : Int) < s.size := by omega
        have v2 : (0 : Int) ≤ i := by omega
        have v3 : IntKind.i64.wrap ((i : Int) + 1) = (i : Int) + 1 := IntWalk.i64_in _ (by omega)
        by_cases hlt2 : i < s.size - 1
        · obtain ⟨r1, r2, r3⟩ := HU.out.rest i (by omega) (by omega) (by omega)
          go_wp2_with fail
          refine (isURL_yes _ r1 r2 r3 w).mono ?_
          rintro e w' ⟨rfl, rfl⟩
          clear r1 r2 r3
          go_wp2_with fail
          go_roundg (s.size - 1 - (i + 1))
          case measure => have := HK2.out; omega
          case rel => exact ⟨i + 1, by simp, rfl, by omega, by omega, rfl⟩
        · have him : i = s.size - 1 := by omega
          have hc : s[i] = 62 := by
            have := HU.out.close (by omega)
            simpa [him] using this
          have v8 : ¬ ((s.size : Int) ≤ i) := by omega
          have v9 : (1 : Int) ≤ i := by omega
          have v10 : (i : Int) ≤ s.size := by omega
          have v11 : (i : Int) + 1 = (s.size : Int) := by omega
          have HM := Lib.hid him
          have H11 := Lib.hid v11
          clear him v11
          go_wp2_with fail
          refine (isURL_gt w).mono ?_
          rintro e w' ⟨rfl, rfl⟩
          go_wp2_with fail
          go_ret3
          refine ⟨w.heap.size, ?_, (Mods.refl _ w).alloc _, Nat.le_refl _, ?_⟩
          · rw [H11.out]; rfl
          · rw [← HM.out]
            exact Blk.newAt _ _ (by simp)

theorem auto_call (s : ByteArray) (m : Nat) (hU : Uri s m) : PieceCall s 0 78 (.auto (s.extract 1 (s.size - 1)) (s.extract 1 (s.size - 1))) 0 s.size := by
  intro bp q W hq
  go_enter Tryz.func78, Tryz.ntmps78
  go_wp2_with fail
  refine (uri_yes s m W hU).mono ?_
  rintro e w1 ⟨b, rfl, hm, hb, hB⟩
  go_wp2_with fail
  exact bodyPost_ret (v := .tuple #[.iface 262 (.pointer (some ⟨b, 0, none⟩)), .int .i64 0, .int .i64 s.size, .bool true]) (by simp [results, Tryz.results78, go_sem]) rfl
    ⟨b, q.corner, rfl, hm.mono (fun _ _ h => h.elim), hq.same hm, hb, hB⟩
end Go.Proofs.YtdnlfdppjfjncaaGreatDoor

/- The laws' own functions: IsPunct, filled, printable. -/
namespace Go.Proofs.YtdnlfdppjfjncaaGreatDoor
open Go Go.RowKit Go.Proofs

set_option maxHeartbeats 4000000 in
theorem spec_IsPunct (c : UInt8) (w : World) :
    Calls Tryz.prog 41 #[.int .u8 c.toNat] w fun e w' => e = .returned (.bool (punct c)) ∧ w = w' := by
  have hc : punct c = ((33 ≤ c.toNat && c.toNat ≤ 47) || (58 ≤ c.toNat && c.toNat ≤ 64) || (91 ≤ c.toNat && c.toNat ≤ 96) || (123 ≤ c.toNat && c.toNat ≤ 126)) := rfl
  generalize punct c = b at *
  have HC := Lib.hid hc
  clear hc
  go_enter Tryz.func41, Tryz.ntmps41
  go_wp2_with fail
  all_goals
    go_ret
    refine ⟨congrArg (fun b => Ending.returned (.bool b)) ?_, rfl⟩
    rw [HC.out, Bool.eq_iff_iff]
    simp
    omega

/-- Every byte from i on is printable. -/
def prFrom (s : ByteArray) (i : Nat) : Bool := if h : i < s.size then (32 ≤ s[i].toNat && s[i].toNat ≤ 126 && prFrom s (i + 1)) else true
termination_by s.size - i

set_option maxHeartbeats 4000000 in
theorem printable_any (s : ByteArray) (m : Nat) (w : World) (_hm8 : m ≤ 100000000) :
    Calls Tryz.prog 16 #[.string s, .int .i64 m] w fun e w' => e = .returned (.bool (decide (s.size ≤ m) && prFrom s 0)) ∧ w = w' := by
  by_cases hm : s.size ≤ m
  · have w0 : ¬ ((m : Int) < s.size) := by omega
    have hd : decide (s.size ≤ m) = true := by simpa using hm
    rw [hd, Bool.true_and]
    clear hd
    go_enter Tryz.func16, Tryz.ntmps16
    go_wp2_with fail
    go_loopg [12] s.size (fun k v wr => ∃ i : Nat, v = .int .i64 i ∧ k = s.size - i ∧ i ≤ s.size ∧ prFrom s i = prFrom s 0 ∧ w = wr)
    case atStart => exact ⟨0, rfl, rfl, Nat.zero_le _, rfl, rfl⟩
    case round =>
      obtain ⟨i, rfl, rfl, hi, hp, rfl⟩ := hrel
      have HP := Lib.hid hp
      clear hp
      by_cases hlt : i < s.size
      · have w1 : (i : Int) < s.size := by omega
        have w2 : (0 : Int) ≤ i := by omega
        have w3 : IntKind.i64.wrap ((i : Int) + 1) = (i : Int) + 1 := IntWalk.i64_in _ (by omega)
        have hun : prFrom s i = (32 ≤ s[i].toNat && s[i].toNat ≤ 126 && prFrom s (i + 1)) := by rw [prFrom, dif_pos hlt]
        have HU := Lib.hid hun
        clear hun
        by_cases hc : 32 ≤ s[i].toNat ∧ s[i].toNat ≤ 126
        · have c1 : ¬ ((s[i].toNat : Int) < 32) := by omega
          have c2 : ¬ ((126 : Int) < s[i].toNat) := by omega
          have Hc := Lib.hid hc
          clear hc
          go_wp2_with fail
          go_roundg (s.size - (i + 1))
          case measure => omega
          case rel => exact ⟨i + 1, by simp, rfl, by omega, by rw [← HP.out, HU.out]; simp [Hc.out.1, Hc.out.2], rfl⟩
        · have hf : prFrom s 0 = false := by
            rw [← HP.out, HU.out]
            by_cases h1 : 32 ≤ s[i].toNat
            · have : ¬ s[i].toNat ≤ 126 := fun h => hc ⟨h1, h⟩
              simp [this]
            · simp [h1]
          have HF := Lib.hid hf
          by_cases h1 : (s[i].toNat : Int) < 32
          · clear hc hf
            go_wp2_with fail
            go_ret
            exact ⟨by rw [HF.out]; rfl, rfl⟩
          · have h2 : (126 : Int) < s[i].toNat := by omega
            clear hc hf
            go_wp2_with fail
            go_ret
            exact ⟨by rw [HF.out]; rfl, rfl⟩
      · have hin : i = s.size := by omega
        have w1 : ¬ ((i : Int) < s.size) := by omega
        have ht : prFrom s 0 = true := by rw [← HP.out, hin, prFrom, dif_neg (Nat.lt_irrefl _)]
        have HT := Lib.hid ht
        clear ht
        go_wp2_with fail
        go_ret
        exact ⟨by rw [HT.out]; rfl, rfl⟩
  · have w0 : (m : Int) < s.size := by omega
    have hd : decide (s.size ≤ m) = false := by simpa using hm
    rw [hd, Bool.false_and]
    clear hd
    go_enter Tryz.func16, Tryz.ntmps16
    go_wp2_with fail
    go_ret
    exact ⟨rfl, rfl⟩
end Go.Proofs.YtdnlfdppjfjncaaGreatDoor

/- The laws' own functions: filled. -/
namespace Go.Proofs.YtdnlfdppjfjncaaGreatDoor
open Go Go.RowKit Go.Proofs

def fillOk (s : ByteArray) : Bool := if h : 0 < s.size then (!((s[0].toNat : Int) == 32)) && (!(((s[s.size - 1]'(by omega)).toNat : Int) == 32)) else false

set_option maxHeartbeats 4000000 in
theorem filled_any (s : ByteArray) (w : World) (hs : s.size ≤ 100000000) :
    Calls Tryz.prog 20 #[.string s] w fun e w' => e = .returned (.bool (fillOk s)) ∧ w = w' := by
  by_cases h : 0 < s.size
  · have hf : fillOk s = ((!((s[0].toNat : Int) == 32)) && (!(((s[s.size - 1]'(by omega)).toNat : Int) == 32))) := by unfold fillOk; rw [dif_pos h]
    have HF := Lib.hid hf
    clear hf
    have e0 : s.toList.isEmpty = false := bs_ne h
    have e0' : (!s.toList.isEmpty) = true := by rw [e0]; rfl
    have w1 : (0 : Int) < s.size := by omega
    have w2 : IntKind.i64.wrap ((s.size : Int) - 1) = (s.size : Int) - 1 := IntWalk.i64_in _ (by omega)
    have w3 : (0 : Int) ≤ (s.size : Int) - 1 := by omega
    have w4 : ((s.size : Int) - 1).toNat = s.size - 1 := by omega
    have w5 : (s.size : Int) - 1 < s.size := by omega
    go_enter Tryz.func20, Tryz.ntmps20
    go_wp2_with fail
    all_goals
      go_ret
      refine ⟨congrArg (fun b => Ending.returned (.bool b)) ?_, rfl⟩
      rw [HF.out]
      first | rfl | simp_all
  · have hf : fillOk s = false := by unfold fillOk; rw [dif_neg h]
    have hz : s = ⟨#[]⟩ := by
      apply ByteArray.ext_getElem
      · show s.size = 0; omega
      · intro i h1 h2; omega
    subst hz
    have HF := Lib.hid hf
    clear hf
    go_enter Tryz.func20, Tryz.ntmps20
    go_wp2_with fail
    go_ret
    exact ⟨by rw [HF.out]; rfl, rfl⟩
end Go.Proofs.YtdnlfdppjfjncaaGreatDoor

/- The plain law of FnEscaped: what the escaped text is, seen by the parser. -/
namespace Go.Proofs.YtdnlfdppjfjncaaGreatDoor
open Go Go.RowKit Go.Proofs

/-- A byte with a backslash ahead, if it is a sign. -/
def slB (c : UInt8) : List UInt8 := if punct c then [92, c] else [c]
/-- A text with a backslash ahead of each sign. -/
def slL (l : List UInt8) : List UInt8 := l.flatMap slB
def slT (t : ByteArray) : ByteArray := ⟨(slL t.data.toList).toArray⟩

def Pr (c : UInt8) : Prop := 32 ≤ c.toNat ∧ c.toNat ≤ 126

theorem slL_len : ∀ l : List UInt8, l.length ≤ (slL l).length ∧ (slL l).length ≤ 2 * l.length
  | [] => by simp [slL]
  | c :: l => by
    have h := slL_len l
    have e : slL (c :: l) = slB c ++ slL l := by simp [slL]
    rw [e]
    unfold slB
    split <;> simp <;> omega

theorem slT_size (t : ByteArray) : t.size ≤ (slT t).size ∧ (slT t).size ≤ 2 * t.size := by
  have h := slL_len t.data.toList
  have e1 : t.data.toList.length = t.size := rfl
  have e2 : (slT t).size = (slL t.data.toList).length := by show (slL t.data.toList).toArray.size = _; simp
  omega

theorem pr_of_prFrom (t : ByteArray) : ∀ (n i : Nat), t.size - i = n → prFrom t i = true → ∀ j (hj : j < t.size), i ≤ j → Pr t[j]
  | 0, i, hn, _, j, hj, hij => by omega
  | n + 1, i, hn, h, j, hj, hij => by
    have hi : i < t.size := by omega
    rw [prFrom, dif_pos hi] at h
    simp only [Bool.and_eq_true, decide_eq_true_eq] at h
    rcases Nat.eq_or_lt_of_le hij with e | e
    · subst e; exact ⟨h.1.1, h.1.2⟩
    · exact pr_of_prFrom t n (i + 1) (by omega) h.2 j hj (by omega)

theorem pr_list {t : ByteArray} (h : prFrom t 0 = true) : ∀ c ∈ t.data.toList, Pr c := by
  intro c hc
  obtain ⟨j, hj, rfl⟩ := List.getElem_of_mem hc
  have hj' : j < t.size := by simpa using hj
  exact pr_of_prFrom t _ 0 rfl h j hj' (Nat.zero_le _)

theorem dull_of {c : UInt8} (hp : Pr c) (h : punct c = false) : dull c = true := by
  unfold dull
  rw [Bool.not_eq_true', ← Bool.not_eq_true]
  intro hc
  rw [List.contains_iff_mem] at hc
  simp only [List.mem_cons, List.not_mem_nil, or_false] at hc
  rcases hc with rfl | rfl | rfl | rfl | rfl | rfl | rfl | rfl | rfl | rfl | rfl | rfl | rfl | rfl | rfl
  all_goals first | exact absurd h (by decide) | exact absurd hp.1 (by decide)

/-- What stands from place k on. -/
def from_ (s : ByteArray) (k : Nat) : List UInt8 := s.data.toList.drop k

theorem from_cons {s : ByteArray} {k : Nat} {c : UInt8} {r : List UInt8} (h : from_ s k = c :: r) : ∃ hk : k < s.size, s[k] = c ∧ from_ s (k + 1) = r := by
  unfold from_ at h
  have hk : k < s.data.toList.length := by
    rcases Nat.lt_or_ge k s.data.toList.length with h1 | h1
    · exact h1
    · rw [List.drop_eq_nil_of_le h1] at h; cases h
  rw [List.drop_eq_getElem_cons hk] at h
  injection h with h1 h2
  exact ⟨by simpa using hk, h1, h2⟩
theorem from_nil {s : ByteArray} {k : Nat} (hk : k ≤ s.size) (h : from_ s k = []) : k = s.size := by
  unfold from_ at h
  have h1 := List.drop_eq_nil_iff.1 h
  have e1 : s.data.toList.length = s.size := rfl
  omega
theorem from_zero (s : ByteArray) : from_ s 0 = s.data.toList := rfl

theorem sl_cons (c : UInt8) (l : List UInt8) : slL (c :: l) = slB c ++ slL l := by simp [slL]
theorem punct_92 : punct 92 = true := by decide

theorem escd_sl (s : ByteArray) : ∀ (l : List UInt8) (k : Nat), k ≤ s.size → (∀ c ∈ l, Pr c) → from_ s k = slL l → Escd s k
  | [], k, hk, _, h => by
    have := from_nil hk h
    rw [Escd, dif_neg (by omega)]
    exact this
  | c :: l, k, hk, hp, h => by
    rw [sl_cons] at h
    unfold slB at h
    by_cases hc : punct c = true
    · rw [if_pos hc] at h
      obtain ⟨h1, e1, h2⟩ := from_cons h
      obtain ⟨h3, e3, h4⟩ := from_cons h2
      rw [Escd, dif_pos h1]
      exact Or.inr ⟨e1, ⟨h3, by rw [e3]; exact hc⟩, escd_sl s l (k + 2) (by omega) (fun x hx => hp x (List.mem_cons_of_mem _ hx)) h4⟩
    · rw [if_neg hc] at h
      obtain ⟨h1, e1, h2⟩ := from_cons h
      rw [Escd, dif_pos h1]
      exact Or.inl ⟨by rw [e1]; exact dull_of (hp c List.mem_cons_self) (by simpa using hc), escd_sl s l (k + 1) (by omega) (fun x hx => hp x (List.mem_cons_of_mem _ hx)) h2⟩

theorem escN_all (s : ByteArray) : escN s s.size = s.data.toList.flatMap escB := by
  show (s.data.toList.take s.data.toList.length).flatMap escB = _
  rw [List.take_length]
theorem out_plain (s : ByteArray) : outPc (.plain s) = s.data.toList.flatMap escB := escN_all s
theorem out_esc (s : ByteArray) : outPc (.esc s) = s.data.toList.flatMap escB := escN_all s

theorem ext_list (s : ByteArray) (i j : Nat) : (s.extract i j).data.toList = (s.data.toList.drop i).take (j - i) := Lib.extract_data s i j
theorem ext_none (s : ByteArray) (i : Nat) : (s.extract i i).data.toList = [] := by rw [ext_list, Nat.sub_self]; rfl
theorem ext_snoc {s : ByteArray} {e k : Nat} (he : e ≤ k) (hk : k < s.size) : (s.extract e (k + 1)).data.toList = (s.extract e k).data.toList ++ [s[k]] := by
  rw [ext_list, ext_list, show k + 1 - e = (k - e) + 1 by omega, List.take_add_one]
  have hg : (s.data.toList.drop e)[k - e]? = some s[k] := by
    rw [List.getElem?_drop, show e + (k - e) = k by omega]
    have h : k < s.data.toList.length := hk
    rw [List.getElem?_eq_getElem h]; rfl
  rw [hg]
  rfl

theorem scan_sl (s : ByteArray) : ∀ (l : List UInt8) (k e : Nat), e ≤ k → k ≤ s.size → (∀ c ∈ l, Pr c) → from_ s k = slL l →
    (scan s k e).flatMap outPc = (s.extract e k).data.toList.flatMap escB ++ l.flatMap escB
  | [], k, e, he, hk, _, h => by
    have hke := from_nil hk h
    subst hke
    rw [scan_end]
    by_cases hlt : e < s.size
    · rw [if_pos hlt]
      simp only [List.flatMap_cons, List.flatMap_nil, out_plain]
    · rw [if_neg hlt]
      have : e = s.size := by omega
      rw [this, ext_none]
      rfl
  | c :: l, k, e, he, hk, hp, h => by
    rw [sl_cons] at h
    unfold slB at h
    by_cases hc : punct c = true
    · rw [if_pos hc] at h
      obtain ⟨h1, e1, h2⟩ := from_cons h
      obtain ⟨h3, e3, h4⟩ := from_cons h2
      rw [scan, dif_pos h1, if_pos e1, List.flatMap_append, List.flatMap_cons, scan_sl s l (k + 2) (k + 2) (Nat.le_refl _) (by omega) (fun x hx => hp x (List.mem_cons_of_mem _ hx)) h4]
      have hx : (s.extract (k + 1) (k + 2)).data.toList = [c] := by rw [ext1 s (k + 1) h3, e3]
      rw [ext_none, out_esc, hx]
      by_cases hlt : e < k
      · rw [if_pos hlt]
        simp only [List.flatMap_cons, List.flatMap_nil, out_plain, List.append_nil, List.nil_append]
      · rw [if_neg hlt]
        have : e = k := by omega
        rw [this, ext_none]
        simp only [List.flatMap_cons, List.flatMap_nil, List.append_nil, List.nil_append]
    · rw [if_neg hc] at h
      obtain ⟨h1, e1, h2⟩ := from_cons h
      have h92 : s[k] ≠ 92 := by
        rw [e1]; intro h; rw [h] at hc; exact hc punct_92
      rw [scan, dif_pos h1, if_neg h92, scan_sl s l (k + 1) e (by omega) (by omega) (fun x hx => hp x (List.mem_cons_of_mem _ hx)) h2]
      rw [ext_snoc he h1, e1]
      simp only [List.flatMap_append, List.flatMap_cons, List.flatMap_nil, List.append_nil, List.append_assoc]
end Go.Proofs.YtdnlfdppjfjncaaGreatDoor
