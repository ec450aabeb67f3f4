/- Some texts of one proof, put into one file: Em4, EmphP, EmphQ, EmphW, Em5d, Em6. -/
import Derived.LoopN
import Derived.Test.YtmmopoofheblbaaGreatDoorIm4
import Derived.Test.YtmmopoofheblbaaGreatDoorIm8
import Derived.Test.YtmmopoofheblbaaGreatDoorIm9
/- emph's trimStack on any stacks. -/
namespace Go.Proofs.YtmmopoofheblbaaGreatDoor.T
open Go Go.RowKit Go.Proofs

def tCells (ka : Nat → Option Addr) (kc l : Nat → Nat) : Array Value := #[.slice (ka 0) (l 0) (kc 0), .slice (ka 1) (l 1) (kc 1), .slice (ka 2) (l 2) (kc 2), .slice (ka 3) (l 3) (kc 3), .slice (ka 4) (l 4) (kc 4)]
theorem tCells_get (ka : Nat → Option Addr) (kc l : Nat → Nat) (q : Nat) (h : q < 5) : (tCells ka kc l)[q]? = some (.slice (ka q) (l q) (kc q)) := by
  have : q = 0 ∨ q = 1 ∨ q = 2 ∨ q = 3 ∨ q = 4 := by omega
  rcases this with rfl | rfl | rfl | rfl | rfl <;> rfl
theorem tCells_set (ka : Nat → Option Addr) (kc l l' : Nat → Nat) (q : Nat) (h : q < 5) (hl : ∀ t, t ≠ q → l' t = l t) : (tCells ka kc l).setIfInBounds q (.slice (ka q) (l' q) (kc q)) = tCells ka kc l' := by
  have : q = 0 ∨ q = 1 ∨ q = 2 ∨ q = 3 ∨ q = 4 := by omega
  rcases this with rfl | rfl | rfl | rfl | rfl <;> simp [tCells, Array.setIfInBounds] <;> simp [hl]
def TrimI (w wr : World) (S : Nat) (ka : Nat → Option Addr) (kc l : Nat → Nat) : Prop := Mods (fun k => k = S) w wr ∧ Blk wr S (tCells ka kc l) 281
theorem TrimI.same {w wr w2 : World} {S : Nat} {ka : Nat → Option Addr} {kc l : Nat → Nat} (h : TrimI w wr S ka kc l) (hm : Same wr w2) : TrimI w w2 S ka kc l := ⟨h.1.then hm (fun _ _ x => absurd x (fun x => x)), hm.blk h.2⟩
theorem TrimI.pop {w wr : World} {S : Nat} {ka : Nat → Option Addr} {kc l : Nat → Nat} (h : TrimI w wr S ka kc l) (q k : Nat) (hq : q < 5) (l' : Nat → Nat) (hl : ∀ t, t ≠ q → l' t = l t) (hk : l' q = k) : TrimI w (wr.setCell ⟨S, q, none⟩ (.slice (ka q) k (kc q))) S ka kc l' := by
  subst hk
  refine ⟨h.1.setCell (p := ⟨S, q, none⟩) (fun _ => rfl) _, ?_⟩
  rw [← tCells_set ka kc l l' q hq hl]
  exact h.2.set_same q _
theorem TrimI.congr {w wr : World} {S : Nat} {ka : Nat → Option Addr} {kc l l' : Nat → Nat} (h : TrimI w wr S ka kc l) (hl : ∀ t, t < 5 → l' t = l t) : TrimI w wr S ka kc l' := by
  have : tCells ka kc l' = tCells ka kc l := by simp [tCells, hl]
  exact ⟨h.1, by rw [this]; exact h.2⟩
theorem TrimI.cell {w wr : World} {S : Nat} {ka : Nat → Option Addr} {kc l : Nat → Nat} (h : TrimI w wr S ka kc l) (q n : Nat) (hq : q < 5) (hn : l q = n) : wr.cell? ⟨S, q, none⟩ = some (.slice (ka q) n (kc q)) ∧ wr.frozen? ⟨S, q, none⟩ = false ∧ S < wr.heap.size := by
  subst hn
  exact ⟨(h.2.cell q).trans (tCells_get ka kc l q hq), h.2.fr q, h.2.lt⟩

set_option maxRecDepth 100000 in
set_option maxHeartbeats 8000000 in
theorem trim_any (S D d dc : Nat) (da : Option Addr) (ka : Nat → Option Addr) (kc len r : Nat → Nat) (w : World) (hS : Blk w S (tCells ka kc len) 281) (hD : Blk w D #[.slice da d dc] 84)
    (hr : ∀ q, q < 5 → r q ≤ len q) (hlen : ∀ q, q < 5 → len q ≤ 1000000) (hd : d ≤ 1000000)
    (hc : ∀ q l, q < 5 → l < len q → ∃ g m i cs cm, ka q = some ⟨g, 0, none⟩ ∧ Blk w g cs 266 ∧ cs[l]? = some (.pointer (some ⟨m, 0, none⟩)) ∧ Blk w m cm 268 ∧ cm[3]? = some (.int .i64 (i : Nat)) ∧ len q ≤ kc q ∧ kc q ≤ 9223372036854775807 ∧ (l < r q ↔ i < d)) :
    Calls Tryz.prog 160 #[.pointer (some ⟨S, 0, none⟩), .pointer (some ⟨D, 0, none⟩)] w fun e w' => e = .returned (.tuple #[]) ∧ TrimI w w' S ka kc r := by
  have hDS : D ≠ S := hD.ne_of_type hS (by decide)
  have hT0 : TrimI w w S ka kc len := ⟨Mods.refl _ _, hS⟩
  have HC := Lib.hid hc
  have HR := Lib.hid hr
  have HL := Lib.hid hlen
  have HD := Lib.hid hD
  have HS := Lib.hid hS
  have HT := Lib.hid hT0
  clear hc hr hlen hD hS hT0
  go_enter Tryz.func160, Tryz.ntmps160
  go_wp2_with fail
  go_loopg [2, 3, 4] 5 (fun a v2 v3 v4 wr => ∃ t : Nat, v4 = .int .i64 t ∧ a = 5 - t ∧ t ≤ 5 ∧ TrimI w wr S ka kc (fun q => if q < t then r q else len q))
  case atStart => exact ⟨0, rfl, rfl, by omega, HT.out.congr (fun t _ => by simp)⟩
  case round =>
    obtain ⟨t, rfl, rfl, ht5, hI⟩ := hrel
    have HI := Lib.hid hI
    clear hI
    have w1 : IntKind.i64.wrap ((t : Int) + 1) = (t : Int) + 1 := IntWalk.i64_in _ (by omega)
    have w2 : (0 : Int) ≤ t := by omega
    by_cases hlt : t < 5
    · have w3 : (t : Int) < 5 := by omega
      go_wp2_with fail
      go_loopg [] (len t) (fun a wx => a ≤ len t ∧ r t ≤ a ∧ TrimI w wx S ka kc (fun q => if q < t then r q else if q = t then a else len q))
      case atStart =>
        refine ⟨Nat.le_refl _, HR.out t hlt, HI.out.congr (fun q _ => ?_)⟩
        by_cases h1 : q < t
        · simp [h1]
        · by_cases h2 : q = t
          · subst h2; simp
          · simp [h1, h2]
      case round =>
        obtain ⟨ha, hra, hx⟩ := hrel
        have HA := Lib.hid ha
        have HRA := Lib.hid hra
        clear ha hra
        rcases Nat.eq_zero_or_pos gk with h0 | h0
        · subst h0
          obtain ⟨y0, y1, y2⟩ := hx.cell t 0 hlt (by simp)
          have HX := Lib.hid hx
          clear hx
          go_wp2_with fail
          go_quiet (fail)
          go_wp2_with fail
          go_roundg (5 - (t + 1))
          case measure => omega
          case rel =>
            refine ⟨t + 1, by simp, rfl, by omega, (HX.out.congr (fun q _ => ?_)).same ((Mods.refl _ _).drewN _)⟩
            have hr0 : r t = 0 := by have := HRA.out; omega
            by_cases h1 : q < t
            · simp [h1]; omega
            · by_cases h2 : q = t
              · subst h2; simp [hr0]
              · simp [h1, h2]; omega
        · obtain ⟨k, rfl⟩ : ∃ k, gk = k + 1 := ⟨gk - 1, by omega⟩
          obtain ⟨y0, y1, y2⟩ := hx.cell t (k + 1) hlt (by simp)
          obtain ⟨g, m, i, cs, cm, h1, h2, h3, h4, h5, h6, h66, h7⟩ := HC.out t k hlt (by have := HA.out; omega)
          have hk6 := HL.out t hlt
          have hgS : g ≠ S := h2.ne_of_type HS.out (by decide)
          have hmS : m ≠ S := h4.ne_of_type HS.out (by decide)
          have z1 : wr.cell? ⟨g, k, none⟩ = some (.pointer (some ⟨m, 0, none⟩)) := ((h2.keep hx.1 hgS).cell k).trans h3
          have z2 : wr.cell? ⟨m, 3, none⟩ = some (.int .i64 i) := ((h4.keep hx.1 hmS).cell 3).trans h5
          have z3 : wr.cell? ⟨D, 0, none⟩ = some (.slice da d dc) := (HD.out.keep hx.1 hDS).cell 0
          rw [h1] at y0
          have hA := HA.out
          have v1 : IntKind.i64.wrap (k : Int) = k := IntWalk.i64_in _ (by omega)
          have v2 : (0 : Int) ≤ k := by omega
          have v3 : (k : Int) < (k : Int) + 1 := by omega
          have v4 : (0 : Int) < (k : Int) + 1 := by omega
          have v5 : (k : Int) ≤ kc t := by omega
          have v6 : (0 : Int) ≤ kc t := by omega
          have HX := Lib.hid hx
          have H7 := Lib.hid h7
          have H1 := Lib.hid h1
          clear hx h7 h1 h2 h3 h4 h5
          by_cases hid : i < d
          · have v7 : (i : Int) < d := by omega
            have v8 : ¬ ((d : Int) ≤ i) := by omega
            go_wp2_with fail
            go_quiet (fail)
            go_wp2_with fail
            go_roundg (5 - (t + 1))
            case measure => omega
            case rel =>
              refine ⟨t + 1, by simp, rfl, by omega, (HX.out.congr (fun q _ => ?_)).same ((Mods.refl _ _).drewN _)⟩
              have hr0 : r t = k + 1 := by have := HRA.out; have := H7.out.2 hid; omega
              by_cases h1 : q < t
              · simp [h1]; omega
              · by_cases h2 : q = t
                · subst h2; simp [hr0]
                · simp [h1, h2]; omega
          · have v7 : ¬ ((i : Int) < d) := by omega
            have v8 : (d : Int) ≤ i := by omega
            go_wp2_with fail
            go_quiet (fail)
            go_wp2_with fail
            have hSX : Same wr (wr.drewN nq) := (Mods.refl _ wr).drewN nq
            generalize hX : (World.drewN wr nq : World) = X at hSX ⊢
            have hx2 := HX.out.same hSX
            clear hX y0 y1 y2 z1 z2 z3
            obtain ⟨y0, y1, y2⟩ := hx2.cell t (k + 1) hlt (by simp)
            rw [H1.out] at y0
            have HX2 := Lib.hid hx2
            clear hx2
            go_region
            all_goals
              go_wp2_with fail
              go_roundg k
              case measure => omega
              case rel =>
                refine ⟨by have := HA.out; omega, ?_, ?_⟩
                · have := HRA.out
                  have h8 : ¬ k < r t := fun h => hid (H7.out.1 h)
                  omega
                · have h9 := HX2.out.pop t k hlt (fun q => if q < t then r q else if q = t then k else len q) (fun q hq => by simp [hq]) (by simp)
                  rw [H1.out] at h9
                  exact h9.same ((Mods.refl _ _).drew)
    · have : t = 5 := by omega
      subst this
      have w3 : ¬ ((5 : Int) < 5) := by omega
      go_wp2_with fail
      go_end0
      exact ⟨rfl, HI.out.congr (fun q hq => by simp [hq])⟩
end Go.Proofs.YtmmopoofheblbaaGreatDoor.T

/- parseEmph at a mark that stands beside a word. -/
namespace Go.Proofs.YtmmopoofheblbaaGreatDoor.G
open Go Go.RowKit Go.Proofs

/-- A letter or a digit. -/
def Wd (c : UInt8) : Prop := (48 ≤ c.toNat ∧ c.toNat ≤ 57) ∨ (65 ≤ c.toNat ∧ c.toNat ≤ 90) ∨ (97 ≤ c.toNat ∧ c.toNat ≤ 122)
/-- A letter, a digit or a space: which. -/
def WS (c : UInt8) (sp : Bool) : Prop := (sp = true ∧ c = 32) ∨ (sp = false ∧ Wd c)
theorem WS.lt {c : UInt8} {b : Bool} (h : WS c b) : c.toNat < 128 := by
  rcases h with ⟨_, rfl⟩ | ⟨_, h⟩
  · decide
  · rcases h with h | h | h <;> omega
theorem WS.pn {c : UInt8} {b : Bool} (h : WS c b) : punct c = false := by
  rcases h with ⟨_, rfl⟩ | ⟨_, h⟩
  · decide
  · unfold punct
    simp only [Bool.or_eq_false_iff, Bool.and_eq_false_iff, decide_eq_false_iff_not]
    rcases h with h | h | h <;> omega

theorem decode_ascii (s : ByteArray) (w : World) (h0 : 0 < s.size) (hc : s[0].toNat < 128) (hs : s.size ≤ 1000000) :
    Calls Tryz.prog 143 #[.string s] w fun e w' => e = .returned (.tuple #[.int .i32 s[0].toNat, .int .i64 1]) ∧ w = w' := by
  have w1 : (s[0].toNat : Int) < 128 := by omega
  have w2 : IntKind.i32.wrap (s[0].toNat : Int) = (s[0].toNat : Int) := IntWalk.i32_in _ (by omega)
  have w3 : (0 : Int) < s.size := by omega
  have e0 : s.toList.isEmpty = false := bs_ne h0
  go_enter Tryz.func143, Tryz.ntmps143
  go_wp2_with fail
  go_ret2
  exact ⟨rfl, rfl⟩

set_option maxRecDepth 100000 in
set_option maxHeartbeats 2000000 in
theorem decodeLast_ascii (s : ByteArray) (w : World) (h0 : 0 < s.size) (hc : s[s.size - 1].toNat < 128) (hs : s.size ≤ 1000000) :
    Calls Tryz.prog 142 #[.string s] w fun e w' => e = .returned (.tuple #[.int .i32 s[s.size - 1].toNat, .int .i64 1]) ∧ w = w' := by
  have w1 : (s[s.size - 1].toNat : Int) < 128 := by omega
  have w2 : IntKind.i32.wrap (s[s.size - 1].toNat : Int) = (s[s.size - 1].toNat : Int) := IntWalk.i32_in _ (by omega)
  have w3 : IntKind.i64.wrap ((s.size : Int) - 1) = (s.size : Int) - 1 := IntWalk.i64_in _ (by omega)
  have w4 : ((s.size : Int) - 1).toNat = s.size - 1 := by omega
  have w5 : (0 : Int) ≤ (s.size : Int) - 1 := by omega
  have w6 : (s.size : Int) - 1 < s.size := by omega
  have w7 : ((s.size : Int) == 0) = false := beq_eq_false_iff_ne.2 (by omega)
  go_enter Tryz.func142, Tryz.ntmps142
  go_wp2_with fail
  go_ret2
  exact ⟨rfl, rfl⟩

theorem uniSpace_ws (c : UInt8) (b : Bool) (w : World) (h : WS c b) :
    Calls Tryz.prog 144 #[.int .i32 c.toNat] w fun e w' => e = .returned (.bool b) ∧ w = w' := by
  have hl := h.lt
  have w1 : (c.toNat : Int) < 128 := by omega
  rcases h with ⟨rfl, rfl⟩ | ⟨rfl, h⟩
  · clear hl w1
    go_enter Tryz.func144, Tryz.ntmps144
    go_wp2_with fail
    go_ret
    exact ⟨rfl, rfl⟩
  · have d1 : ((c.toNat : Int) == 32) = false := beq_eq_false_iff_ne.2 (by rcases h with h | h | h <;> omega)
    have d2 : ((c.toNat : Int) == 9) = false := beq_eq_false_iff_ne.2 (by rcases h with h | h | h <;> omega)
    have d3 : ((c.toNat : Int) == 12) = false := beq_eq_false_iff_ne.2 (by rcases h with h | h | h <;> omega)
    have d4 : ((c.toNat : Int) == 10) = false := beq_eq_false_iff_ne.2 (by rcases h with h | h | h <;> omega)
    clear h hl
    go_enter Tryz.func144, Tryz.ntmps144
    go_wp2_with fail
    go_ret
    exact ⟨rfl, rfl⟩

theorem uniPunct_ws (c : UInt8) (b : Bool) (w : World) (h : WS c b) :
    Calls Tryz.prog 145 #[.int .i32 c.toNat] w fun e w' => e = .returned (.bool false) ∧ w = w' := by
  have hl := h.lt
  have hp := h.pn
  have w1 : (c.toNat : Int) < 128 := by omega
  have w2 : IntKind.u8.wrap (c.toNat : Int) = (c.toNat : Int) := IntWalk.u8_in _ (by omega)
  clear h hl
  go_enter Tryz.func145, Tryz.ntmps145
  go_wp2_with fail
  refine (isPunct_any c w).mono ?_
  rintro e w' ⟨rfl, rfl⟩
  rw [hp]
  go_wp2_with fail
  go_ret
  exact ⟨rfl, rfl⟩
end Go.Proofs.YtmmopoofheblbaaGreatDoor.G

/- parseEmph: what it makes of a mark beside a word. -/
namespace Go.Proofs.YtmmopoofheblbaaGreatDoor.G
open Go Go.RowKit Go.Proofs

/-- A mark of emphasis. -/
def mark (t : ByteArray) (o cl : Bool) (n : Nat) : Pc := ⟨266, 268, #[.string t, .bool o, .bool cl, .int .i64 0, .int .i64 n]⟩
theorem mark_ok (t : ByteArray) (o cl : Bool) (n : Nat) : (mark t o cl n).Ok := ⟨by show 266 ≠ 228; decide, by show 268 ≠ 167; decide, by show 268 ≠ 157; decide⟩

theorem before_at (s : ByteArray) (k : Nat) (b : Bool) (hs : s.size ≤ 1000000) (hk : 0 < k) (hks : k ≤ s.size) (hB : WS (s[k - 1]'(by omega)) b) (W : World) :
    Calls Tryz.prog 142 #[.string (s.extract 0 k)] W fun e w' => e = .returned (.tuple #[.int .i32 (s[k - 1]'(by omega)).toNat, .int .i64 1]) ∧ W = w' := by
  have hz : (s.extract 0 k).size = k := by rw [ByteArray.size_extract]; omega
  have hl : (s.extract 0 k)[(s.extract 0 k).size - 1]'(by omega) = s[k - 1]'(by omega) := by
    rw [ByteArray.getElem_extract]
    congr 1
    omega
  have h := decodeLast_ascii (s.extract 0 k) W (by omega) (by rw [hl]; exact hB.lt) (by omega)
  rw [hl] at h
  exact h
theorem after_at (s : ByteArray) (j : Nat) (a : Bool) (hs : s.size ≤ 1000000) (hj : j < s.size) (hA : WS s[j] a) (W : World) :
    Calls Tryz.prog 143 #[.string (s.extract j s.size)] W fun e w' => e = .returned (.tuple #[.int .i32 s[j].toNat, .int .i64 1]) ∧ W = w' := by
  have hz : (s.extract j s.size).size = s.size - j := by rw [ByteArray.size_extract]; omega
  have hl : (s.extract j s.size)[0]'(by omega) = s[j] := by
    rw [ByteArray.getElem_extract]
    rfl
  have h := decode_ascii (s.extract j s.size) W (by omega) (by rw [hl]; exact hA.lt) (by omega)
  rw [hl] at h
  exact h

def MarkOut (W : World) (bp : Nat) (q : PSt) (pc : Pc) (st en : Nat) (e : Ending) (w' : World) : Prop :=
  ∃ b c, e = .returned (.tuple #[.iface pc.ty (.pointer (some ⟨b, 0, none⟩)), .int .i64 st, .int .i64 en, .bool true]) ∧ Mods (fun k => k = bp) W w' ∧ PsAt w' bp { q with corner := c } ∧ W.heap.size ≤ b ∧ Blk w' b pc.cells pc.bty
theorem mark_end {W w1 : World} {bp : Nat} {q : PSt} {t : ByteArray} {o cl : Bool} {n : Nat} {c : Bool} (hm : Mods (fun k => k = bp) W w1) (hp : PsAt w1 bp { q with corner := c }) :
    Mods (fun k => k = bp) W (w1.alloc (.cells (mark t o cl n).cells (mark t o cl n).bty)) ∧ PsAt (w1.alloc (.cells (mark t o cl n).cells (mark t o cl n).bty)) bp { q with corner := c } ∧ W.heap.size ≤ w1.heap.size ∧
      Blk (w1.alloc (.cells (mark t o cl n).cells (mark t o cl n).bty)) w1.heap.size (mark t o cl n).cells (mark t o cl n).bty :=
  ⟨hm.alloc _, hp.same ((Mods.refl _ _).alloc _), hm.size, Blk.newAt _ _ rfl⟩

set_option maxRecDepth 100000 in
set_option maxHeartbeats 8000000 in
theorem quote_call (s : ByteArray) (k : Nat) (c : UInt8) (a b o cl : Bool) (hs : s.size ≤ 1000000) (hk : 0 < k) (hkn : k + 1 < s.size) (hc : c = 34 ∨ c = 39) (hsk : s[k] = c) (hB : WS (s[k - 1]'(by omega)) b) (hA : WS s[k + 1] a)
    (hab : (a = false ∧ b = true ∧ o = true ∧ cl = false) ∨ (a = true ∧ b = false ∧ o = false ∧ cl = true) ∨ (a = false ∧ b = false ∧ o = false ∧ cl = true)) :
    PieceCall s k 107 (mark (s.extract k (k + 1)) o cl 1) k (k + 1) := by
  intro bp q W hq
  have w1 : (k : Int) < s.size := by omega
  have w2 : (0 : Int) ≤ k := by omega
  have w3 : IntKind.i64.wrap ((k : Int) + 1) = (k : Int) + 1 := IntWalk.i64_in _ (by omega)
  have w4 : IntKind.i64.wrap ((k : Int) + 1 - k) = 1 := by rw [show (k : Int) + 1 - k = 1 by omega]; exact IntWalk.i64_in _ (by omega)
  have w5 : ¬ ((s.size : Int) ≤ (k : Int) + 1) := by omega
  have w6 : ((k : Int) == 0) = false := beq_eq_false_iff_ne.2 (by omega)
  have w6' : ¬ k = 0 := by omega
  have w7 : (k : Int) ≤ s.size := by omega
  have w8 : (k : Int) + 1 ≤ s.size := by omega
  have w9 : (0 : Int) ≤ (k : Int) + 1 := by omega
  have w10 : ((k : Int) + 1).toNat = k + 1 := by omega
  have w11 : (k : Int) ≤ (k : Int) + 1 := by omega
  have HBE := Lib.hid (before_at s k b hs hk (by omega) hB)
  have HAF := Lib.hid (after_at s (k + 1) a hs hkn hA)
  have hb9 := hB.lt
  have n1 : ((s[k - 1].toNat : Int) != 93) = true := bne_iff_ne.2 (by rcases hB with ⟨_, h⟩ | ⟨_, h | h | h⟩ <;> first | (rw [h]; decide) | omega)
  have n2 : ((s[k - 1].toNat : Int) != 41) = true := bne_iff_ne.2 (by rcases hB with ⟨_, h⟩ | ⟨_, h | h | h⟩ <;> first | (rw [h]; decide) | omega)
  have HB := Lib.hid hB
  have HA := Lib.hid hA
  clear hB hA
  have hq' : PsAt W bp { q with corner := q.corner } := hq
  have HQ := Lib.hid hq'
  clear hq hq'
  go_enter Tryz.func107, Tryz.ntmps107
  rcases hc with rfl | rfl
  all_goals
    rcases hab with ⟨rfl, rfl, rfl, rfl⟩ | ⟨rfl, rfl, rfl, rfl⟩ | ⟨rfl, rfl, rfl, rfl⟩
    · go_wp2_with fail
      refine (HBE.out W).mono ?_
      rintro e w' ⟨rfl, rfl⟩
      go_wp2_with fail
      refine (HAF.out W).mono ?_
      rintro e w' ⟨rfl, rfl⟩
      go_wp2_with fail
      refine (uniSpace_ws _ _ W HA.out).mono ?_
      rintro e w' ⟨rfl, rfl⟩
      go_wp2_with fail
      refine (uniPunct_ws _ _ W HA.out).mono ?_
      rintro e w' ⟨rfl, rfl⟩
      go_wp2_with fail
      refine (uniSpace_ws _ _ W HB.out).mono ?_
      rintro e w' ⟨rfl, rfl⟩
      go_wp2_with fail
      exact bodyPost_ret (v := .tuple #[.iface (mark (s.extract k (k + 1)) true false 1).ty (.pointer (some ⟨W.heap.size, 0, none⟩)), .int .i64 k, .int .i64 ((k + 1 : Nat) : Int), .bool true]) (by simp [results, Tryz.results107, go_sem, mark]) rfl
        ⟨W.heap.size, q.corner, rfl, mark_end (Mods.refl _ _) HQ.out⟩
    · go_wp2_with fail
      refine (HBE.out W).mono ?_
      rintro e w' ⟨rfl, rfl⟩
      go_wp2_with fail
      refine (HAF.out W).mono ?_
      rintro e w' ⟨rfl, rfl⟩
      go_wp2_with fail
      refine (uniSpace_ws _ _ W HA.out).mono ?_
      rintro e w' ⟨rfl, rfl⟩
      go_wp2_with fail
      refine (uniSpace_ws _ _ W HB.out).mono ?_
      rintro e w' ⟨rfl, rfl⟩
      go_wp2_with fail
      refine (uniPunct_ws _ _ W HB.out).mono ?_
      rintro e w' ⟨rfl, rfl⟩
      go_wp2_with fail
      exact bodyPost_ret (v := .tuple #[.iface (mark (s.extract k (k + 1)) false true 1).ty (.pointer (some ⟨W.heap.size, 0, none⟩)), .int .i64 k, .int .i64 ((k + 1 : Nat) : Int), .bool true]) (by simp [results, Tryz.results107, go_sem, mark]) rfl
        ⟨W.heap.size, q.corner, rfl, mark_end (Mods.refl _ _) HQ.out⟩
    · go_wp2_with fail
      refine (HBE.out W).mono ?_
      rintro e w' ⟨rfl, rfl⟩
      go_wp2_with fail
      refine (HAF.out W).mono ?_
      rintro e w' ⟨rfl, rfl⟩
      go_wp2_with fail
      refine (uniSpace_ws _ _ W HA.out).mono ?_
      rintro e w' ⟨rfl, rfl⟩
      go_wp2_with fail
      refine (uniPunct_ws _ _ W HA.out).mono ?_
      rintro e w' ⟨rfl, rfl⟩
      go_wp2_with fail
      refine (uniSpace_ws _ _ W HB.out).mono ?_
      rintro e w' ⟨rfl, rfl⟩
      go_wp2_with fail
      refine (uniPunct_ws _ _ W HB.out).mono ?_
      rintro e w' ⟨rfl, rfl⟩
      go_wp2_with fail
      exact bodyPost_ret (v := .tuple #[.iface (mark (s.extract k (k + 1)) false true 1).ty (.pointer (some ⟨W.heap.size, 0, none⟩)), .int .i64 k, .int .i64 ((k + 1 : Nat) : Int), .bool true]) (by simp [results, Tryz.results107, go_sem, mark]) rfl
        ⟨W.heap.size, q.corner, rfl, mark_end (Mods.refl _ _) HQ.out⟩
end Go.Proofs.YtmmopoofheblbaaGreatDoor.G

/- What emph holds from round to round. -/
namespace Go.Proofs.YtmmopoofheblbaaGreatDoor
open Go Go.RowKit Go.Proofs

/-- A value of the list that is no mark and no bracket. -/
structure Quiet (T : Nat) : Prop where
  open_ : ∀ X v W, (Instr.typeAssert (.iface T v) X 228 true).run Tryz.prog W = .ok (.tuple #[.pointer none, .bool false]) W
  emph : ∀ X v W, (Instr.typeAssert (.iface T v) X 266 true).run Tryz.prog W = .ok (.tuple #[.pointer none, .bool false]) W
theorem as_open_mark (X : Nat) (v : Value) (w : World) : (Instr.typeAssert (.iface 266 v) X 228 true).run Tryz.prog w = .ok (.tuple #[.pointer none, .bool false]) w :=
  as_ptr_no _ 228 231 (by kernel_rfl) (fun _ => by kernel_rfl) X v w (by decide)
theorem as_mark_yes (X : Nat) (v : Value) (w : World) : (Instr.typeAssert (.iface 266 v) X 266 true).run Tryz.prog w = .ok (.tuple #[v, .bool true]) w := by kernel_rfl

/-- What emph holds at the begin of a round: dst has d places of the row xs; the stacks; the two marks. -/
structure Em (w wr : World) (g n cap D S m1 m2 d : Nat) (xs : List Value) (sa a1 a2 : Array Value) : Prop where
  mods : Mods (fun k => k = g ∨ k = m1 ∨ k = m2) w wr
  fD : w.heap.size ≤ D
  fS : w.heap.size ≤ S
  D : Blk wr D #[.slice (some ⟨g, 0, none⟩) d cap] 84
  S : Blk wr S sa 281
  row : wr.ownsRow 0 157 1 (.slice (some ⟨g, 0, none⟩) n cap) n xs
  b1 : Blk wr m1 a1 268
  b2 : Blk wr m2 a2 268
  pos : 0 < n

section
variable {w wr : World} {g n cap D S m1 m2 d : Nat} {xs : List Value} {sa a1 a2 : Array Value}
theorem Em.gblk (h : Em w wr g n cap D S m1 m2 d xs sa a1 a2) : ∃ cur, Blk wr g cur 157 := by
  obtain ⟨_, _, he, hcur, _, _⟩ := ownsRow_form h.row h.pos
  cases he
  exact hcur
theorem Em.same {w2 : World} (h : Em w wr g n cap D S m1 m2 d xs sa a1 a2) (hm : Same wr w2) : Em w w2 g n cap D S m1 m2 d xs sa a1 a2 :=
  ⟨h.mods.then hm (fun _ _ x => absurd x (fun x => x)), h.fD, h.fS, hm.blk h.D, hm.blk h.S, ownsRow_keep h.row hm (fun _ _ x => x), hm.blk h.b1, hm.blk h.b2, h.pos⟩
theorem Em.cells (h : Em w wr g n cap D S m1 m2 d xs sa a1 a2) : wr.cell? ⟨D, 0, none⟩ = some (.slice (some ⟨g, 0, none⟩) d cap) ∧ wr.frozen? ⟨D, 0, none⟩ = false ∧ D < wr.heap.size := ⟨h.D.cell 0, h.D.fr 0, h.D.lt⟩
theorem Em.src (h : Em w wr g n cap D S m1 m2 d xs sa a1 a2) (i : Nat) (u : Value) (hu : xs[i]? = some u) : wr.cell? ⟨g, i, none⟩ = some u := by
  obtain ⟨_, _, he, _, _, hc⟩ := ownsRow_form h.row h.pos
  cases he
  exact hc i _ hu
/-- One place of the row is written, and dst made longer. -/
theorem Em.app {w1 wB : World} {xs' : List Value} (h : Em w wr g n cap D S m1 m2 d xs sa a1 a2) (h1 : Same wr w1) (hm : Mods (fun k => k = g) w1 wB) (hr : wB.ownsRow 0 157 1 (.slice (some ⟨g, 0, none⟩) n cap) n xs') :
    Em w wB g n cap D S m1 m2 d xs' sa a1 a2 := by
  have h2 := h.same h1
  obtain ⟨cur, hcur⟩ := h2.gblk
  refine ⟨h2.mods.then hm (fun _ _ x => Or.inl x), h.fD, h.fS, h2.D.keep1 hm (h2.D.ne_of_type hcur (by decide)), h2.S.keep1 hm (h2.S.ne_of_type hcur (by decide)), hr, h2.b1.keep1 hm (h2.b1.ne_of_type hcur (by decide)), h2.b2.keep1 hm (h2.b2.ne_of_type hcur (by decide)), h.pos⟩
theorem Em.setD (h : Em w wr g n cap D S m1 m2 d xs sa a1 a2) (d' : Nat) : Em w (wr.setCell ⟨D, 0, none⟩ (.slice (some ⟨g, 0, none⟩) d' cap)) g n cap D S m1 m2 d' xs sa a1 a2 := by
  have hm : Mods (fun k => k = D) wr (wr.setCell ⟨D, 0, none⟩ (.slice (some ⟨g, 0, none⟩) d' cap)) := (Mods.refl (fun k => k = D) wr).setCell (p := ⟨D, 0, none⟩) (fun _ => rfl) _
  obtain ⟨cur, hcur⟩ := h.gblk
  have hd := h.fD
  refine ⟨h.mods.then hm (fun b hb x => by omega), h.fD, h.fS, h.D.set_same 0 _, h.S.keep1 hm (h.S.ne_of_type h.D (by decide)), ownsRow_keep h.row hm (fun b hb x => by cases hb; exact hcur.ne_of_type h.D (by decide) x), h.b1.keep1 hm (h.b1.ne_of_type h.D (by decide)), h.b2.keep1 hm (h.b2.ne_of_type h.D (by decide)), h.pos⟩
theorem Em.setI (h : Em w wr g n cap D S m1 m2 d xs sa a1 a2) (hm12 : m1 ≠ m2) (j : Nat) (v : Value) : Em w (wr.setCell ⟨m1, j, none⟩ v) g n cap D S m1 m2 d xs sa (a1.setIfInBounds j v) a2 := by
  have hm : Mods (fun k => k = m1) wr (wr.setCell ⟨m1, j, none⟩ v) := (Mods.refl (fun k => k = m1) wr).setCell (p := ⟨m1, j, none⟩) (fun _ => rfl) _
  obtain ⟨cur, hcur⟩ := h.gblk
  exact ⟨h.mods.then hm (fun b hb x => Or.inr (Or.inl x)), h.fD, h.fS, h.D.keep1 hm (h.D.ne_of_type h.b1 (by decide)), h.S.keep1 hm (h.S.ne_of_type h.b1 (by decide)), ownsRow_keep h.row hm (fun b hb x => by cases hb; exact hcur.ne_of_type h.b1 (by decide) x), h.b1.set_same j _, h.b2.keep1 hm (fun e => hm12 e.symm), h.pos⟩
theorem Em.setJ (h : Em w wr g n cap D S m1 m2 d xs sa a1 a2) (hm12 : m1 ≠ m2) (j : Nat) (v : Value) : Em w (wr.setCell ⟨m2, j, none⟩ v) g n cap D S m1 m2 d xs sa a1 (a2.setIfInBounds j v) := by
  have hm : Mods (fun k => k = m2) wr (wr.setCell ⟨m2, j, none⟩ v) := (Mods.refl (fun k => k = m2) wr).setCell (p := ⟨m2, j, none⟩) (fun _ => rfl) _
  obtain ⟨cur, hcur⟩ := h.gblk
  exact ⟨h.mods.then hm (fun b hb x => Or.inr (Or.inr x)), h.fD, h.fS, h.D.keep1 hm (h.D.ne_of_type h.b2 (by decide)), h.S.keep1 hm (h.S.ne_of_type h.b2 (by decide)), ownsRow_keep h.row hm (fun b hb x => by cases hb; exact hcur.ne_of_type h.b2 (by decide) x), h.b1.keep1 hm hm12, h.b2.set_same j _, h.pos⟩
theorem Em.setS (h : Em w wr g n cap D S m1 m2 d xs sa a1 a2) (j : Nat) (v : Value) : Em w (wr.setCell ⟨S, j, none⟩ v) g n cap D S m1 m2 d xs (sa.setIfInBounds j v) a1 a2 := by
  have hm : Mods (fun k => k = S) wr (wr.setCell ⟨S, j, none⟩ v) := (Mods.refl (fun k => k = S) wr).setCell (p := ⟨S, j, none⟩) (fun _ => rfl) _
  obtain ⟨cur, hcur⟩ := h.gblk
  have hs := h.fS
  exact ⟨h.mods.then hm (fun b hb x => by omega), h.fD, h.fS, h.D.keep1 hm (h.D.ne_of_type h.S (by decide)), h.S.set_same j _, ownsRow_keep h.row hm (fun b hb x => by cases hb; exact hcur.ne_of_type h.S (by decide) x), h.b1.keep1 hm (h.b1.ne_of_type h.S (by decide)), h.b2.keep1 hm (h.b2.ne_of_type h.S (by decide)), h.pos⟩
theorem Em.grown {w2 : World} (h : Em w wr g n cap D S m1 m2 d xs sa a1 a2) (hm : Same wr w2) : Em w w2 g n cap D S m1 m2 d xs sa a1 a2 := h.same hm
theorem Em.m1c (h : Em w wr g n cap D S m1 m2 d xs sa a1 a2) (j : Nat) : wr.cell? ⟨m1, j, none⟩ = a1[j]? ∧ wr.frozen? ⟨m1, j, none⟩ = false ∧ m1 < wr.heap.size := ⟨h.b1.cell j, h.b1.fr j, h.b1.lt⟩
theorem Em.m2c (h : Em w wr g n cap D S m1 m2 d xs sa a1 a2) (j : Nat) : wr.cell? ⟨m2, j, none⟩ = a2[j]? ∧ wr.frozen? ⟨m2, j, none⟩ = false ∧ m2 < wr.heap.size := ⟨h.b2.cell j, h.b2.fr j, h.b2.lt⟩
theorem Em.sc (h : Em w wr g n cap D S m1 m2 d xs sa a1 a2) (j : Nat) : wr.cell? ⟨S, j, none⟩ = sa[j]? ∧ wr.frozen? ⟨S, j, none⟩ = false ∧ S < wr.heap.size := ⟨h.S.cell j, h.S.fr j, h.S.lt⟩
end

/-- A row of marks is not touched by a store into the stacks. -/
theorem row_set3 {w wr : World} {g n cap D S m1 m2 d : Nat} {xs : List Value} {sa a1 a2 : Array Value} (h : Em w wr g n cap D S m1 m2 d xs sa a1 a2) {sg sc k : Nat} {ys : List Value} (hr : wr.ownsRow 0 266 1 (.slice (some ⟨sg, 0, none⟩) k sc) k ys) (j : Nat) (v : Value) :
    (wr.setCell ⟨S, j, none⟩ v).ownsRow 0 266 1 (.slice (some ⟨sg, 0, none⟩) k sc) k ys := by
  have hm : Mods (fun k => k = S) wr (wr.setCell ⟨S, j, none⟩ v) := (Mods.refl (fun k => k = S) wr).setCell (p := ⟨S, j, none⟩) (fun _ => rfl) _
  exact ownsRow_keep hr hm (fun b hb x => own_ne hr h.S (by decide) (by rw [← x]; exact hb))

theorem row_app {w wr w1 wB : World} {g n cap D S m1 m2 d : Nat} {xs : List Value} {sa a1 a2 : Array Value} (h : Em w wr g n cap D S m1 m2 d xs sa a1 a2) {sg sc k : Nat} {ys : List Value} (hr : wr.ownsRow 0 266 1 (.slice (some ⟨sg, 0, none⟩) k sc) k ys) (h1 : Same wr w1) (hm : Mods (fun k => k = g) w1 wB) :
    wB.ownsRow 0 266 1 (.slice (some ⟨sg, 0, none⟩) k sc) k ys := by
  have hr1 := ownsRow_keep hr h1 (fun _ _ x => x)
  obtain ⟨cur, hcur⟩ := (h.same h1).gblk
  exact ownsRow_keep hr1 hm (fun b hb x => own_ne hr1 hcur (by decide) (by rw [← x]; exact hb))
theorem row_setD {w wr : World} {g n cap D S m1 m2 d : Nat} {xs : List Value} {sa a1 a2 : Array Value} (h : Em w wr g n cap D S m1 m2 d xs sa a1 a2) {sg sc k : Nat} {ys : List Value} (hr : wr.ownsRow 0 266 1 (.slice (some ⟨sg, 0, none⟩) k sc) k ys) (v : Value) :
    (wr.setCell ⟨D, 0, none⟩ v).ownsRow 0 266 1 (.slice (some ⟨sg, 0, none⟩) k sc) k ys := by
  have hm : Mods (fun k => k = D) wr (wr.setCell ⟨D, 0, none⟩ v) := (Mods.refl (fun k => k = D) wr).setCell (p := ⟨D, 0, none⟩) (fun _ => rfl) _
  exact ownsRow_keep hr hm (fun b hb x => own_ne hr h.D (by decide) (by rw [← x]; exact hb))

theorem db_app {w wr w1 wB : World} {g n cap D S m1 m2 d db : Nat} {xs : List Value} {sa a1 a2 cs : Array Value} (h : Em w wr g n cap D S m1 m2 d xs sa a1 a2) (hb : Blk wr db cs 202) (h1 : Same wr w1) (hm : Mods (fun k => k = g) w1 wB) : Blk wB db cs 202 := by
  obtain ⟨cur, hcur⟩ := (h.same h1).gblk
  have hb1 := h1.blk hb
  exact hb1.keep1 hm (hb1.ne_of_type hcur (by decide))
theorem db_setD {w wr : World} {g n cap D S m1 m2 d db : Nat} {xs : List Value} {sa a1 a2 cs : Array Value} (h : Em w wr g n cap D S m1 m2 d xs sa a1 a2) (hb : Blk wr db cs 202) (v : Value) : Blk (wr.setCell ⟨D, 0, none⟩ v) db cs 202 :=
  hb.keep1 ((Mods.refl (fun k => k = D) wr).setCell (p := ⟨D, 0, none⟩) (fun _ => rfl) _) (hb.ne_of_type h.D (by decide))
theorem ig_app {w wr w1 wB : World} {g n cap D S m1 m2 d ig ic : Nat} {xs ys : List Value} {sa a1 a2 : Array Value} (_h : Em w wr g n cap D S m1 m2 d xs sa a1 a2) (hr : wr.ownsRow 0 157 1 (.slice (some ⟨ig, 0, none⟩) 1 ic) 1 ys) (hne : ig ≠ g) (h1 : Same wr w1) (hm : Mods (fun k => k = g) w1 wB) :
    wB.ownsRow 0 157 1 (.slice (some ⟨ig, 0, none⟩) 1 ic) 1 ys :=
  ownsRow_keep (ownsRow_keep hr h1 (fun _ _ x => x)) hm (fun b hb x => by cases hb; exact hne x)
theorem ig_setD {w wr : World} {g n cap D S m1 m2 d ig ic : Nat} {xs ys : List Value} {sa a1 a2 : Array Value} (h : Em w wr g n cap D S m1 m2 d xs sa a1 a2) (hr : wr.ownsRow 0 157 1 (.slice (some ⟨ig, 0, none⟩) 1 ic) 1 ys) (v : Value) :
    (wr.setCell ⟨D, 0, none⟩ v).ownsRow 0 157 1 (.slice (some ⟨ig, 0, none⟩) 1 ic) 1 ys :=
  ownsRow_keep hr ((Mods.refl (fun k => k = D) wr).setCell (p := ⟨D, 0, none⟩) (fun _ => rfl) _) (fun b hb x => own_ne hr h.D (by decide) (by rw [← x]; exact hb))

theorem st_inl_at {w : World} {ops : Array Oper} {o : Oper} {a : Act} {K : Act → World → Prop} {Q : Exit → Act → World → Prop} {E : Prop} (hgd : o.guard = none) (s x : Operand) (ho : o.op = .call { callee := .builtin .append, args := #[s, x], argTypes := #[84, 84] })
    (v : Value) (n : Nat) (xs : List Value) (hs : a.eval s = v) (hown : w.ownsRow 0 157 1 v n xs)
    (b off c T : Nat) (u : Value) (hx : a.eval x = .slice (some ⟨b, off, none⟩) 1 c) (hu : w.cell? ⟨b, off, none⟩ = some (.iface T u)) (hn : n ≤ 1000000)
    (h : ∀ g cap w', w'.ownsRow 0 157 1 (.slice (some ⟨g, 0, none⟩) (n + 1) cap) (n + 1) (xs ++ [.iface T u]) → w.grownBy w' v.ownBlock → (v.ownBlock = some g ∨ g = w.heap.size) → K (a.put o.dst (.slice (some ⟨g, 0, none⟩) (n + 1) cap)) w') :
    if Region.wanted o (yielded ops a.tmps) = true then Oper.wp Tryz.prog o a w K Q else E := by
  have hi : (Tryz.prog.info? 157).map (fun i => (i.zero, i.size, i.bytes)) = some (some Value.nilIface, 1, 16) := by kernel_rfl
  obtain ⟨i0, hi0, hz⟩ := Option.map_eq_some_iff.1 hi
  simp only [Prod.mk.injEq] at hz
  obtain ⟨hz0, hz1, hz2⟩ := hz
  refine step_append_lies w hgd s x 84 ho 0 157 i0 .nilIface 1 16 Tryz.underlying84 hi0 hz0 hz1 hz2 rfl (by decide) v n xs hs hown ⟨b, off, none⟩ 1 c [.iface T u] hx rfl ?_ (fun y hy => by simp at hy; subst hy; rfl) (by omega) (by unfold maxLen; omega) ?_ (Nat.zero_le _) _ rfl (fun g cap w' h2 h3 h4 _ => h g cap w' h2 h3 h4)
  · intro j y hy
    cases j with
    | zero => simp at hy; subst hy; simpa [Addr.add_lit] using hu
    | succ j => simp at hy
  · omega

theorem stackOf_n (c : Nat) (k : Nat) (w : World) (h : (c = 126 ∧ k = 2) ∨ (c = 34 ∧ k = 3) ∨ (c = 39 ∧ k = 4)) :
    Calls Tryz.prog 159 #[.int .u8 c] w fun e w' => e = .returned (.int .i64 k) ∧ w = w' := by
  rcases h with ⟨rfl, rfl⟩ | ⟨rfl, rfl⟩ | ⟨rfl, rfl⟩
  · exact stackOf_at 126 2 w (Or.inl ⟨rfl, rfl⟩)
  · exact stackOf_at 34 3 w (Or.inr (Or.inl ⟨rfl, rfl⟩))
  · exact stackOf_at 39 4 w (Or.inr (Or.inr ⟨rfl, rfl⟩))
end Go.Proofs.YtmmopoofheblbaaGreatDoor

/- emph: whether an opener and a closer go together. -/
namespace Go.Proofs.YtmmopoofheblbaaGreatDoor.T
open Go Go.RowKit Go.Proofs

/-- What stands in the block of this number. -/
def findBlk (n : Nat) : Code → Option Code
  | .block k c => if Nat.beq k n then some c else findBlk n c
  | .seq a b => match findBlk n a with
    | some c => some c
    | none => findBlk n b
  | .cond _ a b => match findBlk n a with
    | some c => some c
    | none => findBlk n b
  | .loop c => findBlk n c
  | .scope c => findBlk n c
  | _ => none
noncomputable def emB : Code := (Tryz.f117.body).getD .skip
def snd : Code → Code
  | .seq _ b => b
  | c => c
def fst : Code → Code
  | .seq a _ => a
  | c => c
noncomputable def c5 : Code := (findBlk 5 emB).getD .skip
noncomputable def c20 : Code := fst (snd c5)

def sk1 (p o : Mk) : Bool := (p.c == 42 || p.c == 95) && (p.co && p.cc || o.co && o.cc) && (p.n + o.n) % 3 == 0 && (p.n % 3 != 0 || o.n % 3 != 0)

def Fr5 (q d0 sv : Value) (D S i m kx j mo : Nat) (a : Act) : Prop := ∃ v : Nat → Value, a = ⟨#[q, d0, sv, undef, .pointer (some ⟨D, 0, none⟩), undef, .slice none 0 0, .pointer (some ⟨S, 0, none⟩), .func (.func 159) #[] #[], .func (.func 160) #[] #[.pointer (some ⟨S, 0, none⟩), .pointer (some ⟨D, 0, none⟩)], .int .i64 i, v 11, v 12, .pointer (some ⟨m, 0, none⟩), v 14, .pointer (some ⟨S, kx, none⟩), .int .i64 j, .pointer (some ⟨mo, 0, none⟩), v 18, v 19, v 20, v 21, .func (.func 160) #[] #[.pointer (some ⟨S, 0, none⟩), .pointer (some ⟨D, 0, none⟩)], v 23, v 24, v 25, v 26, v 27, v 28, v 29, v 30, v 31, v 32, v 33, v 34, v 35, v 36, v 37, v 38, v 39, v 40, v 41, v 42, v 43, v 44, v 45, v 46, v 47, v 48, v 49, v 50, v 51, v 52, v 53, v 54, v 55, v 56, v 57, v 58, v 59, v 60, v 61, v 62, v 63, v 64, v 65, v 66, v 67, v 68, v 69, v 70, v 71, v 72, v 73, v 74, v 75, v 76, v 77, v 78, v 79, v 80, v 81, v 82, v 83, v 84, v 85, v 86, v 87, v 88, v 89, v 90, v 91, v 92, v 93, v 94, v 95, v 96, v 97, v 98, v 99, v 100, v 101, v 102, v 103, v 104, v 105, v 106, v 107, v 108, v 109, v 110, v 111, v 112, v 113, v 114, v 115, v 116, v 117, v 118, v 119, v 120, v 121, v 122, v 123, v 124, v 125, v 126, v 127, v 128, v 129, v 130, v 131, v 132, v 133, v 134, v 135, v 136, v 137, v 138, v 139, v 140, v 141, v 142, v 143, v 144, v 145, v 146, v 147, v 148, v 149, v 150, v 151, v 152, v 153, v 154, v 155, v 156, v 157, v 158, v 159, v 160, v 161, v 162, v 163, v 164, v 165, v 166, v 167, v 168, v 169, v 170, v 171, v 172, v 173, v 174, v 175, v 176, v 177, v 178, v 179, v 180, v 181, v 182, v 183, v 184, v 185, v 186, v 187, v 188, v 189, v 190, v 191, v 192, v 193, v 194, v 195, v 196, v 197, v 198, v 199, v 200, v 201, v 202, v 203, v 204, v 205, v 206, v 207, v 208, v 209, v 210, v 211, v 212, v 213, v 214, v 215, v 216, v 217, v 218, v 219, v 220, v 221, v 222, v 223, v 224, v 225, v 226, v 227, v 228, v 229, v 230, v 231, v 232, v 233, v 234, v 235, v 236, v 237, v 238, v 239, v 240, v 241, v 242, v 243, v 244, v 245, v 246, v 247, v 248, v 249, v 250, v 251, v 252, v 253, v 254, v 255, v 256, v 257, v 258, v 259, v 260, v 261, v 262, v 263, v 264, v 265, v 266, v 267, v 268, v 269, v 270, v 271, v 272, v 273, v 274, v 275, v 276, v 277, v 278, v 279, v 280, v 281, v 282, v 283, v 284, v 285, v 286, v 287, v 288, v 289, v 290, v 291, v 292, v 293, v 294, v 295, v 296, v 297, v 298, v 299, v 300, v 301, v 302, v 303, v 304, v 305, v 306, v 307, v 308, v 309, v 310, v 311, v 312, v 313, v 314, v 315, v 316, v 317, v 318, v 319, v 320, v 321, v 322, v 323, v 324, v 325, v 326, v 327, v 328, v 329, v 330, v 331, v 332, v 333, v 334, v 335, v 336, v 337, v 338, v 339, v 340, v 341, v 342, v 343, v 344, v 345, v 346, v 347, v 348, v 349, v 350, v 351, v 352, v 353, v 354, v 355, v 356, v 357, v 358, v 359, v 360, v 361, v 362, v 363, v 364, v 365, v 366, v 367, v 368, v 369, v 370, v 371, v 372, v 373, v 374, v 375, v 376, v 377, v 378, v 379, v 380, v 381, v 382, v 383, v 384, v 385, v 386, v 387, v 388, v 389, v 390, v 391, v 392, v 393, v 394, v 395, v 396, v 397, v 398, v 399, v 400, v 401, v 402, v 403, v 404, v 405, v 406, v 407, v 408, v 409, v 410, v 411, v 412, v 413, v 414, v 415, v 416, v 417, v 418, v 419, v 420, v 421, v 422, v 423, v 424, v 425, v 426, v 427, v 428, v 429, v 430, v 431, v 432, v 433, v 434, v 435], []⟩

end Go.Proofs.YtmmopoofheblbaaGreatDoor.T

/- emph: an opener and a closer that go together: how many signs they give. -/
namespace Go.Proofs.YtmmopoofheblbaaGreatDoor.T
open Go Go.RowKit Go.Proofs

noncomputable def c21 : Code := snd (snd c5)
noncomputable def c37 : Code := snd (snd (snd (snd (snd (snd c21)))))

def Fr37 (q d0 sv : Value) (D S i m kx j mo d : Nat) (del : Bool) (a : Act) : Prop := ∃ v : Nat → Value, a = ⟨#[q, d0, sv, undef, .pointer (some ⟨D, 0, none⟩), undef, .slice none 0 0, .pointer (some ⟨S, 0, none⟩), .func (.func 159) #[] #[], .func (.func 160) #[] #[.pointer (some ⟨S, 0, none⟩), .pointer (some ⟨D, 0, none⟩)], .int .i64 i, v 11, v 12, .pointer (some ⟨m, 0, none⟩), v 14, .pointer (some ⟨S, kx, none⟩), .int .i64 j, .pointer (some ⟨mo, 0, none⟩), .int .i64 d, .bool del, v 20, v 21, .func (.func 160) #[] #[.pointer (some ⟨S, 0, none⟩), .pointer (some ⟨D, 0, none⟩)], v 23, v 24, v 25, v 26, v 27, v 28, v 29, v 30, v 31, v 32, v 33, v 34, v 35, v 36, v 37, v 38, v 39, v 40, v 41, v 42, v 43, v 44, v 45, v 46, v 47, v 48, v 49, v 50, v 51, v 52, v 53, v 54, v 55, v 56, v 57, v 58, v 59, v 60, v 61, v 62, v 63, v 64, v 65, v 66, v 67, v 68, v 69, v 70, v 71, v 72, v 73, v 74, v 75, v 76, v 77, v 78, v 79, v 80, v 81, v 82, v 83, v 84, v 85, v 86, v 87, v 88, v 89, v 90, v 91, v 92, v 93, v 94, v 95, v 96, v 97, v 98, v 99, v 100, v 101, v 102, v 103, v 104, v 105, v 106, v 107, v 108, v 109, v 110, v 111, v 112, v 113, v 114, v 115, v 116, v 117, v 118, v 119, v 120, v 121, v 122, v 123, v 124, v 125, v 126, v 127, v 128, v 129, v 130, v 131, v 132, v 133, v 134, v 135, v 136, v 137, v 138, v 139, v 140, v 141, v 142, v 143, v 144, v 145, v 146, v 147, v 148, v 149, v 150, v 151, v 152, v 153, v 154, v 155, v 156, v 157, v 158, v 159, v 160, v 161, v 162, v 163, v 164, v 165, v 166, v 167, v 168, v 169, v 170, v 171, v 172, v 173, v 174, v 175, v 176, v 177, v 178, v 179, v 180, v 181, v 182, v 183, v 184, v 185, v 186, v 187, v 188, v 189, v 190, v 191, v 192, v 193, v 194, v 195, v 196, v 197, v 198, v 199, v 200, v 201, v 202, v 203, v 204, v 205, v 206, v 207, v 208, v 209, v 210, v 211, v 212, v 213, v 214, v 215, v 216, v 217, v 218, v 219, v 220, v 221, v 222, v 223, v 224, v 225, v 226, v 227, v 228, v 229, v 230, v 231, v 232, v 233, v 234, v 235, v 236, v 237, v 238, v 239, v 240, v 241, v 242, v 243, v 244, v 245, v 246, v 247, v 248, v 249, v 250, v 251, v 252, v 253, v 254, v 255, v 256, v 257, v 258, v 259, v 260, v 261, v 262, v 263, v 264, v 265, v 266, v 267, v 268, v 269, v 270, v 271, v 272, v 273, v 274, v 275, v 276, v 277, v 278, v 279, v 280, v 281, v 282, v 283, v 284, v 285, v 286, v 287, v 288, v 289, v 290, v 291, v 292, v 293, v 294, v 295, v 296, v 297, v 298, v 299, v 300, v 301, v 302, v 303, v 304, v 305, v 306, v 307, v 308, v 309, v 310, v 311, v 312, v 313, v 314, v 315, v 316, v 317, v 318, v 319, v 320, v 321, v 322, v 323, v 324, v 325, v 326, v 327, v 328, v 329, v 330, v 331, v 332, v 333, v 334, v 335, v 336, v 337, v 338, v 339, v 340, v 341, v 342, v 343, v 344, v 345, v 346, v 347, v 348, v 349, v 350, v 351, v 352, v 353, v 354, v 355, v 356, v 357, v 358, v 359, v 360, v 361, v 362, v 363, v 364, v 365, v 366, v 367, v 368, v 369, v 370, v 371, v 372, v 373, v 374, v 375, v 376, v 377, v 378, v 379, v 380, v 381, v 382, v 383, v 384, v 385, v 386, v 387, v 388, v 389, v 390, v 391, v 392, v 393, v 394, v 395, v 396, v 397, v 398, v 399, v 400, v 401, v 402, v 403, v 404, v 405, v 406, v 407, v 408, v 409, v 410, v 411, v 412, v 413, v 414, v 415, v 416, v 417, v 418, v 419, v 420, v 421, v 422, v 423, v 424, v 425, v 426, v 427, v 428, v 429, v 430, v 431, v 432, v 433, v 434, v 435], []⟩

def sk2 (p o : Mk) : Bool := p.c == 126 && p.k != o.k
theorem skips_eq (p o : Mk) : skips p o = (sk1 p o || sk2 p o) := rfl

set_option maxRecDepth 100000 in
set_option maxHeartbeats 20000000 in
theorem r21 (q d0 sv : Value) (D S i kx j : Nat) (p o : Mk) (pi oi : Int) (w : World) (hp : MkAt w p pi) (ho : MkAt w o oi) (hpk : p.Ok) (hok : o.Ok) (hp0 : 0 < p.k) (ho0 : 0 < o.k) (Q : Exit → Act → World → Prop)
    (hyes : sk2 p o = true → ∀ a' w', Fr5 q d0 sv D S i p.m kx j o.m a' → Same w w' → Q (.exit 5) a' w') (hno : sk2 p o = false → ∀ a' w', Fr37 q d0 sv D S i p.m kx j o.m (take2 p o) (p.c == 126) a' → Same w w' → Code.wp Tryz.prog (fst c37) (Exit.then (Code.wp Tryz.prog (snd c37) Q) Q) a' w')
    (a : Act) (ha : Fr5 q d0 sv D S i p.m kx j o.m a) : Code.wp Tryz.prog c21 Q a w := by
  obtain ⟨v, rfl⟩ := ha
  obtain ⟨pm, pc, pk, pco, pcc, pn⟩ := p
  obtain ⟨om, oc, ok, oco, occ, on⟩ := o
  conv => arg 2; whnf
  have x0 : w.cell? ⟨pm, 0, none⟩ = some (.string (run pc pk)) := Blk.cell hp 0
  have z0 : w.cell? ⟨om, 0, none⟩ = some (.string (run oc ok)) := Blk.cell ho 0
  have hpn : pk ≤ 1000000 := hpk.2.1
  have hon : ok ≤ 1000000 := hok.2.1
  have hsz : 0 < (run pc pk).size := by rw [run_size]; exact hp0
  have hpc : McOk pc := hpk.1
  have u0 : ∀ h : 0 < (run pc pk).size, (((run pc pk)[0]'h).toNat : Int) = pc.toNat := fun h => by rw [run_get]
  have e1 : (run pc pk).size = pk := run_size pc pk
  have e2 : (run oc ok).size = ok := run_size oc ok
  have hp0' : 0 < pk := hp0
  have ho0' : 0 < ok := ho0
  generalize hrun : run pc pk = tt at x0 hsz u0 e1
  generalize hrun2 : run oc ok = tt2 at z0 e2
  have HY := Lib.hid hyes
  have HN := Lib.hid hno
  have hb1 : tt.size ≤ 1000000 := by omega
  have hb2 : tt2.size ≤ 1000000 := by omega
  have E1 := Lib.hid e1
  have E2 := Lib.hid e2
  clear hyes hno hp ho hpk hok hp0 hrun hrun2 e1 e2 ho0 ho0' hp0' hpn hon
  rcases hpc with hc | hc | hc <;> subst hc
  · have u1 : ∀ h : 0 < tt.size, ((tt[0]'h).toNat : Int) = 95 := u0
    clear u0
    by_cases h2 : 2 ≤ tt.size
    · have g1 : (2 : Int) ≤ tt.size := by omega
      by_cases h3 : 2 ≤ tt2.size
      · have g2 : (2 : Int) ≤ tt2.size := by omega
        go_wp2_with fail
        go_quiet (fail)
        go_wp2_with fail
        have h4 : take2 ⟨pm, 95, pk, pco, pcc, pn⟩ ⟨om, oc, ok, oco, occ, on⟩ = 2 := if_pos ⟨by show 2 ≤ pk; rw [← E1.out]; exact h2, by show 2 ≤ ok; rw [← E2.out]; exact h3⟩
        have HN' := HN.out
        rw [h4] at HN'
        refine wp_mono (Q := Exit.then (Code.wp Tryz.prog (snd c37) Q) Q) ?_ (fun e a w h => ?_)
        · exact HN' (rfl) _ _ ⟨(fun d => cond (Nat.ble 11 d && Nat.ble d 277) (cond (Nat.ble d 138) (cond (Nat.ble d 74) (cond (Nat.ble d 42) (cond (Nat.ble d 26) (List.getD [_, _, undef, _, undef, undef, undef, undef, undef, _, _, undef, _, _, _, _] (d - 11) undef) (List.getD [_, _, _, _, _, _, _, _, _, _, _, _, _, _, _, _] (d - 27) undef)) (cond (Nat.ble d 58) (List.getD [_, _, _, _, _, _, _, _, _, _, _, _, _, _, _, _] (d - 43) undef) (List.getD [_, _, _, _, _, _, _, _, _, _, _, _, _, _, _, _] (d - 59) undef))) (cond (Nat.ble d 106) (cond (Nat.ble d 90) (List.getD [_, _, _, _, _, _, _, _, _, _, _, _, _, _, _, _] (d - 75) undef) (List.getD [_, _, _, _, _, _, _, _, _, _, _, _, _, _, _, _] (d - 91) undef)) (cond (Nat.ble d 122) (List.getD [_, _, _, _, _, _, _, _, _, _, _, _, _, _, _, _] (d - 107) undef) (List.getD [_, _, _, _, _, _, _, _, _, _, _, _, _, _, _, _] (d - 123) undef)))) (cond (Nat.ble d 202) (cond (Nat.ble d 170) (cond (Nat.ble d 154) (List.getD [_, _, _, _, _, _, _, _, _, _, _, _, _, _, _, _] (d - 139) undef) (List.getD [_, _, _, _, _, _, _, _, _, _, _, _, _, _, _, _] (d - 155) undef)) (cond (Nat.ble d 186) (List.getD [_, _, _, _, _, _, _, _, _, _, _, _, _, _, _, _] (d - 171) undef) (List.getD [_, _, _, _, _, _, _, _, _, _, _, _, _, _, _, _] (d - 187) undef))) (cond (Nat.ble d 234) (cond (Nat.ble d 218) (List.getD [_, _, _, _, _, _, _, _, _, _, _, _, _, _, _, _] (d - 203) undef) (List.getD [_, _, _, _, _, _, _, _, _, _, _, _, _, _, _, _] (d - 219) undef)) (cond (Nat.ble d 250) (List.getD [_, _, _, _, _, _, _, _, _, _, _, _, _, _, _, _] (d - 235) undef) (cond (Nat.ble d 266) (List.getD [_, _, _, _, _, _, _, _, _, _, _, _, _, _, _, _] (d - 251) undef) (List.getD [_, _, _, _, _, _, _, _, _, _, _] (d - 267) undef)))))) (v d)), rfl⟩ ((Mods.refl _ w).drewN _)
        · cases e <;> first | exact h | (apply_assumption; exact h)
      · have g2 : ¬ ((2 : Int) ≤ tt2.size) := by omega
        go_wp2_with fail
        go_quiet (fail)
        go_wp2_with fail
        have h4 : take2 ⟨pm, 95, pk, pco, pcc, pn⟩ ⟨om, oc, ok, oco, occ, on⟩ = 1 := if_neg (fun x => by first | exact h2 (by rw [E1.out]; exact x.1) | exact h3 (by rw [E2.out]; exact x.2))
        have HN' := HN.out
        rw [h4] at HN'
        refine wp_mono (Q := Exit.then (Code.wp Tryz.prog (snd c37) Q) Q) ?_ (fun e a w h => ?_)
        · exact HN' (rfl) _ _ ⟨(fun d => cond (Nat.ble 11 d && Nat.ble d 277) (cond (Nat.ble d 138) (cond (Nat.ble d 74) (cond (Nat.ble d 42) (cond (Nat.ble d 26) (List.getD [_, _, undef, _, undef, undef, undef, undef, undef, _, _, undef, _, _, _, _] (d - 11) undef) (List.getD [_, _, _, _, _, _, _, _, _, _, _, _, _, _, _, _] (d - 27) undef)) (cond (Nat.ble d 58) (List.getD [_, _, _, _, _, _, _, _, _, _, _, _, _, _, _, _] (d - 43) undef) (List.getD [_, _, _, _, _, _, _, _, _, _, _, _, _, _, _, _] (d - 59) undef))) (cond (Nat.ble d 106) (cond (Nat.ble d 90) (List.getD [_, _, _, _, _, _, _, _, _, _, _, _, _, _, _, _] (d - 75) undef) (List.getD [_, _, _, _, _, _, _, _, _, _, _, _, _, _, _, _] (d - 91) undef)) (cond (Nat.ble d 122) (List.getD [_, _, _, _, _, _, _, _, _, _, _, _, _, _, _, _] (d - 107) undef) (List.getD [_, _, _, _, _, _, _, _, _, _, _, _, _, _, _, _] (d - 123) undef)))) (cond (Nat.ble d 202) (cond (Nat.ble d 170) (cond (Nat.ble d 154) (List.getD [_, _, _, _, _, _, _, _, _, _, _, _, _, _, _, _] (d - 139) undef) (List.getD [_, _, _, _, _, _, _, _, _, _, _, _, _, _, _, _] (d - 155) undef)) (cond (Nat.ble d 186) (List.getD [_, _, _, _, _, _, _, _, _, _, _, _, _, _, _, _] (d - 171) undef) (List.getD [_, _, _, _, _, _, _, _, _, _, _, _, _, _, _, _] (d - 187) undef))) (cond (Nat.ble d 234) (cond (Nat.ble d 218) (List.getD [_, _, _, _, _, _, _, _, _, _, _, _, _, _, _, _] (d - 203) undef) (List.getD [_, _, _, _, _, _, _, _, _, _, _, _, _, _, _, _] (d - 219) undef)) (cond (Nat.ble d 250) (List.getD [_, _, _, _, _, _, _, _, _, _, _, _, _, _, _, _] (d - 235) undef) (cond (Nat.ble d 266) (List.getD [_, _, _, _, _, _, _, _, _, _, _, _, _, _, _, _] (d - 251) undef) (List.getD [_, _, _, _, _, _, _, _, _, _, _] (d - 267) undef)))))) (v d)), rfl⟩ ((Mods.refl _ w).drewN _)
        · cases e <;> first | exact h | (apply_assumption; exact h)
    · have g1 : ¬ ((2 : Int) ≤ tt.size) := by omega
      go_wp2_with fail
      go_quiet (fail)
      go_wp2_with fail
      have h4 : take2 ⟨pm, 95, pk, pco, pcc, pn⟩ ⟨om, oc, ok, oco, occ, on⟩ = 1 := if_neg (fun x => by first | exact h2 (by rw [E1.out]; exact x.1) | exact h3 (by rw [E2.out]; exact x.2))
      have HN' := HN.out
      rw [h4] at HN'
      refine wp_mono (Q := Exit.then (Code.wp Tryz.prog (snd c37) Q) Q) ?_ (fun e a w h => ?_)
      · exact HN' (rfl) _ _ ⟨(fun d => cond (Nat.ble 11 d && Nat.ble d 277) (cond (Nat.ble d 138) (cond (Nat.ble d 74) (cond (Nat.ble d 42) (cond (Nat.ble d 26) (List.getD [_, _, undef, _, undef, undef, undef, undef, undef, _, _, undef, _, _, _, _] (d - 11) undef) (List.getD [_, _, _, _, _, _, _, _, _, _, _, _, _, _, _, _] (d - 27) undef)) (cond (Nat.ble d 58) (List.getD [_, _, _, _, _, _, _, _, _, _, _, _, _, _, _, _] (d - 43) undef) (List.getD [_, _, _, _, _, _, _, _, _, _, _, _, _, _, _, _] (d - 59) undef))) (cond (Nat.ble d 106) (cond (Nat.ble d 90) (List.getD [_, _, _, _, _, _, _, _, _, _, _, _, _, _, _, _] (d - 75) undef) (List.getD [_, _, _, _, _, _, _, _, _, _, _, _, _, _, _, _] (d - 91) undef)) (cond (Nat.ble d 122) (List.getD [_, _, _, _, _, _, _, _, _, _, _, _, _, _, _, _] (d - 107) undef) (List.getD [_, _, _, _, _, _, _, _, _, _, _, _, _, _, _, _] (d - 123) undef)))) (cond (Nat.ble d 202) (cond (Nat.ble d 170) (cond (Nat.ble d 154) (List.getD [_, _, _, _, _, _, _, _, _, _, _, _, _, _, _, _] (d - 139) undef) (List.getD [_, _, _, _, _, _, _, _, _, _, _, _, _, _, _, _] (d - 155) undef)) (cond (Nat.ble d 186) (List.getD [_, _, _, _, _, _, _, _, _, _, _, _, _, _, _, _] (d - 171) undef) (List.getD [_, _, _, _, _, _, _, _, _, _, _, _, _, _, _, _] (d - 187) undef))) (cond (Nat.ble d 234) (cond (Nat.ble d 218) (List.getD [_, _, _, _, _, _, _, _, _, _, _, _, _, _, _, _] (d - 203) undef) (List.getD [_, _, _, _, _, _, _, _, _, _, _, _, _, _, _, _] (d - 219) undef)) (cond (Nat.ble d 250) (List.getD [_, _, _, _, _, _, _, _, _, _, _, _, _, _, _, _] (d - 235) undef) (cond (Nat.ble d 266) (List.getD [_, _, _, _, _, _, _, _, _, _, _, _, _, _, _, _] (d - 251) undef) (List.getD [_, _, _, _, _, _, _, _, _, _, _] (d - 267) undef)))))) (v d)), rfl⟩ ((Mods.refl _ w).drewN _)
      · cases e <;> first | exact h | (apply_assumption; exact h)
  · have u1 : ∀ h : 0 < tt.size, ((tt[0]'h).toNat : Int) = 42 := u0
    clear u0
    by_cases h2 : 2 ≤ tt.size
    · have g1 : (2 : Int) ≤ tt.size := by omega
      by_cases h3 : 2 ≤ tt2.size
      · have g2 : (2 : Int) ≤ tt2.size := by omega
        go_wp2_with fail
        go_quiet (fail)
        go_wp2_with fail
        have h4 : take2 ⟨pm, 42, pk, pco, pcc, pn⟩ ⟨om, oc, ok, oco, occ, on⟩ = 2 := if_pos ⟨by show 2 ≤ pk; rw [← E1.out]; exact h2, by show 2 ≤ ok; rw [← E2.out]; exact h3⟩
        have HN' := HN.out
        rw [h4] at HN'
        refine wp_mono (Q := Exit.then (Code.wp Tryz.prog (snd c37) Q) Q) ?_ (fun e a w h => ?_)
        · exact HN' (rfl) _ _ ⟨(fun d => cond (Nat.ble 11 d && Nat.ble d 277) (cond (Nat.ble d 138) (cond (Nat.ble d 74) (cond (Nat.ble d 42) (cond (Nat.ble d 26) (List.getD [_, _, undef, _, undef, undef, undef, undef, undef, _, _, undef, _, _, _, _] (d - 11) undef) (List.getD [_, _, _, _, _, _, _, _, _, _, _, _, _, _, _, _] (d - 27) undef)) (cond (Nat.ble d 58) (List.getD [_, _, _, _, _, _, _, _, _, _, _, _, _, _, _, _] (d - 43) undef) (List.getD [_, _, _, _, _, _, _, _, _, _, _, _, _, _, _, _] (d - 59) undef))) (cond (Nat.ble d 106) (cond (Nat.ble d 90) (List.getD [_, _, _, _, _, _, _, _, _, _, _, _, _, _, _, _] (d - 75) undef) (List.getD [_, _, _, _, _, _, _, _, _, _, _, _, _, _, _, _] (d - 91) undef)) (cond (Nat.ble d 122) (List.getD [_, _, _, _, _, _, _, _, _, _, _, _, _, _, _, _] (d - 107) undef) (List.getD [_, _, _, _, _, _, _, _, _, _, _, _, _, _, _, _] (d - 123) undef)))) (cond (Nat.ble d 202) (cond (Nat.ble d 170) (cond (Nat.ble d 154) (List.getD [_, _, _, _, _, _, _, _, _, _, _, _, _, _, _, _] (d - 139) undef) (List.getD [_, _, _, _, _, _, _, _, _, _, _, _, _, _, _, _] (d - 155) undef)) (cond (Nat.ble d 186) (List.getD [_, _, _, _, _, _, _, _, _, _, _, _, _, _, _, _] (d - 171) undef) (List.getD [_, _, _, _, _, _, _, _, _, _, _, _, _, _, _, _] (d - 187) undef))) (cond (Nat.ble d 234) (cond (Nat.ble d 218) (List.getD [_, _, _, _, _, _, _, _, _, _, _, _, _, _, _, _] (d - 203) undef) (List.getD [_, _, _, _, _, _, _, _, _, _, _, _, _, _, _, _] (d - 219) undef)) (cond (Nat.ble d 250) (List.getD [_, _, _, _, _, _, _, _, _, _, _, _, _, _, _, _] (d - 235) undef) (cond (Nat.ble d 266) (List.getD [_, _, _, _, _, _, _, _, _, _, _, _, _, _, _, _] (d - 251) undef) (List.getD [_, _, _, _, _, _, _, _, _, _, _] (d - 267) undef)))))) (v d)), rfl⟩ ((Mods.refl _ w).drewN _)
        · cases e <;> first | exact h | (apply_assumption; exact h)
      · have g2 : ¬ ((2 : Int) ≤ tt2.size) := by omega
        go_wp2_with fail
        go_quiet (fail)
        go_wp2_with fail
        have h4 : take2 ⟨pm, 42, pk, pco, pcc, pn⟩ ⟨om, oc, ok, oco, occ, on⟩ = 1 := if_neg (fun x => by first | exact h2 (by rw [E1.out]; exact x.1) | exact h3 (by rw [E2.out]; exact x.2))
        have HN' := HN.out
        rw [h4] at HN'
        refine wp_mono (Q := Exit.then (Code.wp Tryz.prog (snd c37) Q) Q) ?_ (fun e a w h => ?_)
        · exact HN' (rfl) _ _ ⟨(fun d => cond (Nat.ble 11 d && Nat.ble d 277) (cond (Nat.ble d 138) (cond (Nat.ble d 74) (cond (Nat.ble d 42) (cond (Nat.ble d 26) (List.getD [_, _, undef, _, undef, undef, undef, undef, undef, _, _, undef, _, _, _, _] (d - 11) undef) (List.getD [_, _, _, _, _, _, _, _, _, _, _, _, _, _, _, _] (d - 27) undef)) (cond (Nat.ble d 58) (List.getD [_, _, _, _, _, _, _, _, _, _, _, _, _, _, _, _] (d - 43) undef) (List.getD [_, _, _, _, _, _, _, _, _, _, _, _, _, _, _, _] (d - 59) undef))) (cond (Nat.ble d 106) (cond (Nat.ble d 90) (List.getD [_, _, _, _, _, _, _, _, _, _, _, _, _, _, _, _] (d - 75) undef) (List.getD [_, _, _, _, _, _, _, _, _, _, _, _, _, _, _, _] (d - 91) undef)) (cond (Nat.ble d 122) (List.getD [_, _, _, _, _, _, _, _, _, _, _, _, _, _, _, _] (d - 107) undef) (List.getD [_, _, _, _, _, _, _, _, _, _, _, _, _, _, _, _] (d - 123) undef)))) (cond (Nat.ble d 202) (cond (Nat.ble d 170) (cond (Nat.ble d 154) (List.getD [_, _, _, _, _, _, _, _, _, _, _, _, _, _, _, _] (d - 139) undef) (List.getD [_, _, _, _, _, _, _, _, _, _, _, _, _, _, _, _] (d - 155) undef)) (cond (Nat.ble d 186) (List.getD [_, _, _, _, _, _, _, _, _, _, _, _, _, _, _, _] (d - 171) undef) (List.getD [_, _, _, _, _, _, _, _, _, _, _, _, _, _, _, _] (d - 187) undef))) (cond (Nat.ble d 234) (cond (Nat.ble d 218) (List.getD [_, _, _, _, _, _, _, _, _, _, _, _, _, _, _, _] (d - 203) undef) (List.getD [_, _, _, _, _, _, _, _, _, _, _, _, _, _, _, _] (d - 219) undef)) (cond (Nat.ble d 250) (List.getD [_, _, _, _, _, _, _, _, _, _, _, _, _, _, _, _] (d - 235) undef) (cond (Nat.ble d 266) (List.getD [_, _, _, _, _, _, _, _, _, _, _, _, _, _, _, _] (d - 251) undef) (List.getD [_, _, _, _, _, _, _, _, _, _, _] (d - 267) undef)))))) (v d)), rfl⟩ ((Mods.refl _ w).drewN _)
        · cases e <;> first | exact h | (apply_assumption; exact h)
    · have g1 : ¬ ((2 : Int) ≤ tt.size) := by omega
      go_wp2_with fail
      go_quiet (fail)
      go_wp2_with fail
      have h4 : take2 ⟨pm, 42, pk, pco, pcc, pn⟩ ⟨om, oc, ok, oco, occ, on⟩ = 1 := if_neg (fun x => by first | exact h2 (by rw [E1.out]; exact x.1) | exact h3 (by rw [E2.out]; exact x.2))
      have HN' := HN.out
      rw [h4] at HN'
      refine wp_mono (Q := Exit.then (Code.wp Tryz.prog (snd c37) Q) Q) ?_ (fun e a w h => ?_)
      · exact HN' (rfl) _ _ ⟨(fun d => cond (Nat.ble 11 d && Nat.ble d 277) (cond (Nat.ble d 138) (cond (Nat.ble d 74) (cond (Nat.ble d 42) (cond (Nat.ble d 26) (List.getD [_, _, undef, _, undef, undef, undef, undef, undef, _, _, undef, _, _, _, _] (d - 11) undef) (List.getD [_, _, _, _, _, _, _, _, _, _, _, _, _, _, _, _] (d - 27) undef)) (cond (Nat.ble d 58) (List.getD [_, _, _, _, _, _, _, _, _, _, _, _, _, _, _, _] (d - 43) undef) (List.getD [_, _, _, _, _, _, _, _, _, _, _, _, _, _, _, _] (d - 59) undef))) (cond (Nat.ble d 106) (cond (Nat.ble d 90) (List.getD [_, _, _, _, _, _, _, _, _, _, _, _, _, _, _, _] (d - 75) undef) (List.getD [_, _, _, _, _, _, _, _, _, _, _, _, _, _, _, _] (d - 91) undef)) (cond (Nat.ble d 122) (List.getD [_, _, _, _, _, _, _, _, _, _, _, _, _, _, _, _] (d - 107) undef) (List.getD [_, _, _, _, _, _, _, _, _, _, _, _, _, _, _, _] (d - 123) undef)))) (cond (Nat.ble d 202) (cond (Nat.ble d 170) (cond (Nat.ble d 154) (List.getD [_, _, _, _, _, _, _, _, _, _, _, _, _, _, _, _] (d - 139) undef) (List.getD [_, _, _, _, _, _, _, _, _, _, _, _, _, _, _, _] (d - 155) undef)) (cond (Nat.ble d 186) (List.getD [_, _, _, _, _, _, _, _, _, _, _, _, _, _, _, _] (d - 171) undef) (List.getD [_, _, _, _, _, _, _, _, _, _, _, _, _, _, _, _] (d - 187) undef))) (cond (Nat.ble d 234) (cond (Nat.ble d 218) (List.getD [_, _, _, _, _, _, _, _, _, _, _, _, _, _, _, _] (d - 203) undef) (List.getD [_, _, _, _, _, _, _, _, _, _, _, _, _, _, _, _] (d - 219) undef)) (cond (Nat.ble d 250) (List.getD [_, _, _, _, _, _, _, _, _, _, _, _, _, _, _, _] (d - 235) undef) (cond (Nat.ble d 266) (List.getD [_, _, _, _, _, _, _, _, _, _, _, _, _, _, _, _] (d - 251) undef) (List.getD [_, _, _, _, _, _, _, _, _, _, _] (d - 267) undef)))))) (v d)), rfl⟩ ((Mods.refl _ w).drewN _)
      · cases e <;> first | exact h | (apply_assumption; exact h)
  · have u1 : ∀ h : 0 < tt.size, ((tt[0]'h).toNat : Int) = 126 := u0
    clear u0
    by_cases h6 : tt.size = tt2.size
    · have q1 : ((tt.size : Int) != tt2.size) = false := by rw [h6]; simp
      have h6' := Lib.hid h6
      clear h6
      by_cases h2 : 2 ≤ tt.size
      · have g1 : (2 : Int) ≤ tt.size := by omega
        by_cases h3 : 2 ≤ tt2.size
        · have g2 : (2 : Int) ≤ tt2.size := by omega
          go_wp2_with fail
          go_quiet (fail)
          go_wp2_with fail
          have h4 : take2 ⟨pm, 126, pk, pco, pcc, pn⟩ ⟨om, oc, ok, oco, occ, on⟩ = 2 := if_pos ⟨by show 2 ≤ pk; rw [← E1.out]; exact h2, by show 2 ≤ ok; rw [← E2.out]; exact h3⟩
          have HN' := HN.out
          rw [h4] at HN'
          have HSK : sk2 ⟨pm, 126, pk, pco, pcc, pn⟩ ⟨om, oc, ok, oco, occ, on⟩ = false := by
            have h5 : pk = ok := by rw [← E1.out, ← E2.out]; exact h6'.out
            simp [sk2, h5]
          refine wp_mono (Q := Exit.then (Code.wp Tryz.prog (snd c37) Q) Q) ?_ (fun e a w h => ?_)
          · exact HN' (HSK) _ _ ⟨(fun d => cond (Nat.ble 11 d && Nat.ble d 277) (cond (Nat.ble d 138) (cond (Nat.ble d 74) (cond (Nat.ble d 42) (cond (Nat.ble d 26) (List.getD [_, _, undef, _, undef, undef, undef, undef, undef, _, _, undef, _, _, _, _] (d - 11) undef) (List.getD [_, _, _, _, _, _, _, _, _, _, _, _, _, _, _, _] (d - 27) undef)) (cond (Nat.ble d 58) (List.getD [_, _, _, _, _, _, _, _, _, _, _, _, _, _, _, _] (d - 43) undef) (List.getD [_, _, _, _, _, _, _, _, _, _, _, _, _, _, _, _] (d - 59) undef))) (cond (Nat.ble d 106) (cond (Nat.ble d 90) (List.getD [_, _, _, _, _, _, _, _, _, _, _, _, _, _, _, _] (d - 75) undef) (List.getD [_, _, _, _, _, _, _, _, _, _, _, _, _, _, _, _] (d - 91) undef)) (cond (Nat.ble d 122) (List.getD [_, _, _, _, _, _, _, _, _, _, _, _, _, _, _, _] (d - 107) undef) (List.getD [_, _, _, _, _, _, _, _, _, _, _, _, _, _, _, _] (d - 123) undef)))) (cond (Nat.ble d 202) (cond (Nat.ble d 170) (cond (Nat.ble d 154) (List.getD [_, _, _, _, _, _, _, _, _, _, _, _, _, _, _, _] (d - 139) undef) (List.getD [_, _, _, _, _, _, _, _, _, _, _, _, _, _, _, _] (d - 155) undef)) (cond (Nat.ble d 186) (List.getD [_, _, _, _, _, _, _, _, _, _, _, _, _, _, _, _] (d - 171) undef) (List.getD [_, _, _, _, _, _, _, _, _, _, _, _, _, _, _, _] (d - 187) undef))) (cond (Nat.ble d 234) (cond (Nat.ble d 218) (List.getD [_, _, _, _, _, _, _, _, _, _, _, _, _, _, _, _] (d - 203) undef) (List.getD [_, _, _, _, _, _, _, _, _, _, _, _, _, _, _, _] (d - 219) undef)) (cond (Nat.ble d 250) (List.getD [_, _, _, _, _, _, _, _, _, _, _, _, _, _, _, _] (d - 235) undef) (cond (Nat.ble d 266) (List.getD [_, _, _, _, _, _, _, _, _, _, _, _, _, _, _, _] (d - 251) undef) (List.getD [_, _, _, _, _, _, _, _, _, _, _] (d - 267) undef)))))) (v d)), rfl⟩ ((Mods.refl _ w).drewN _)
          · cases e <;> first | exact h | (apply_assumption; exact h)
        · exact absurd (by rw [← h6'.out]; exact h2) h3
      · have g1 : ¬ ((2 : Int) ≤ tt.size) := by omega
        go_wp2_with fail
        go_quiet (fail)
        go_wp2_with fail
        have h4 : take2 ⟨pm, 126, pk, pco, pcc, pn⟩ ⟨om, oc, ok, oco, occ, on⟩ = 1 := if_neg (fun x => by first | exact h2 (by rw [E1.out]; exact x.1) | exact h3 (by rw [E2.out]; exact x.2))
        have HN' := HN.out
        rw [h4] at HN'
        have HSK : sk2 ⟨pm, 126, pk, pco, pcc, pn⟩ ⟨om, oc, ok, oco, occ, on⟩ = false := by
          have h5 : pk = ok := by rw [← E1.out, ← E2.out]; exact h6'.out
          simp [sk2, h5]
        refine wp_mono (Q := Exit.then (Code.wp Tryz.prog (snd c37) Q) Q) ?_ (fun e a w h => ?_)
        · exact HN' (HSK) _ _ ⟨(fun d => cond (Nat.ble 11 d && Nat.ble d 277) (cond (Nat.ble d 138) (cond (Nat.ble d 74) (cond (Nat.ble d 42) (cond (Nat.ble d 26) (List.getD [_, _, undef, _, undef, undef, undef, undef, undef, _, _, undef, _, _, _, _] (d - 11) undef) (List.getD [_, _, _, _, _, _, _, _, _, _, _, _, _, _, _, _] (d - 27) undef)) (cond (Nat.ble d 58) (List.getD [_, _, _, _, _, _, _, _, _, _, _, _, _, _, _, _] (d - 43) undef) (List.getD [_, _, _, _, _, _, _, _, _, _, _, _, _, _, _, _] (d - 59) undef))) (cond (Nat.ble d 106) (cond (Nat.ble d 90) (List.getD [_, _, _, _, _, _, _, _, _, _, _, _, _, _, _, _] (d - 75) undef) (List.getD [_, _, _, _, _, _, _, _, _, _, _, _, _, _, _, _] (d - 91) undef)) (cond (Nat.ble d 122) (List.getD [_, _, _, _, _, _, _, _, _, _, _, _, _, _, _, _] (d - 107) undef) (List.getD [_, _, _, _, _, _, _, _, _, _, _, _, _, _, _, _] (d - 123) undef)))) (cond (Nat.ble d 202) (cond (Nat.ble d 170) (cond (Nat.ble d 154) (List.getD [_, _, _, _, _, _, _, _, _, _, _, _, _, _, _, _] (d - 139) undef) (List.getD [_, _, _, _, _, _, _, _, _, _, _, _, _, _, _, _] (d - 155) undef)) (cond (Nat.ble d 186) (List.getD [_, _, _, _, _, _, _, _, _, _, _, _, _, _, _, _] (d - 171) undef) (List.getD [_, _, _, _, _, _, _, _, _, _, _, _, _, _, _, _] (d - 187) undef))) (cond (Nat.ble d 234) (cond (Nat.ble d 218) (List.getD [_, _, _, _, _, _, _, _, _, _, _, _, _, _, _, _] (d - 203) undef) (List.getD [_, _, _, _, _, _, _, _, _, _, _, _, _, _, _, _] (d - 219) undef)) (cond (Nat.ble d 250) (List.getD [_, _, _, _, _, _, _, _, _, _, _, _, _, _, _, _] (d - 235) undef) (cond (Nat.ble d 266) (List.getD [_, _, _, _, _, _, _, _, _, _, _, _, _, _, _, _] (d - 251) undef) (List.getD [_, _, _, _, _, _, _, _, _, _, _] (d - 267) undef)))))) (v d)), rfl⟩ ((Mods.refl _ w).drewN _)
        · cases e <;> first | exact h | (apply_assumption; exact h)
    · have q1 : ((tt.size : Int) != tt2.size) = true := by simp; omega
      have h6' := Lib.hid h6
      clear h6
      go_wp2_with fail
      go_quiet (fail)
      go_wp2_with fail
      refine HY.out ?_ _ _ ⟨(fun d => cond (Nat.ble 165 d && Nat.ble d 186) (cond (Nat.ble d 180) (List.getD [_, _, _, _, _, _, _, _, _, _, _, _, _, _, _, _] (d - 165) undef) (List.getD [_, _, _, _, _, _] (d - 181) undef)) (v d)), rfl⟩ ((Mods.refl _ w).drewN _)
      have h5 : pk ≠ ok := by rw [← E1.out, ← E2.out]; exact h6'.out
      simp [sk2, h5]
end Go.Proofs.YtmmopoofheblbaaGreatDoor.T
