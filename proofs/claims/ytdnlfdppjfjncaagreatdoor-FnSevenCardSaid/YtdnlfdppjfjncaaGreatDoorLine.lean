/- The small functions on lines, walked: what each answers for a line without tabs. -/
import Derived.Test.YtdnlfdppjfjncaaGreatDoorBase
namespace Go.Proofs.YtdnlfdppjfjncaaGreatDoor
open Go Go.RowKit Go.Proofs

/-- How many spaces stand from place i on, at most m. -/
def lead (s : ByteArray) (i : Nat) : Nat → Nat
  | 0 => 0
  | m + 1 => if h : i < s.size then (if s[i] = 32 then lead s (i + 1) m + 1 else 0) else 0

theorem lead_le (s : ByteArray) : ∀ (m i : Nat), lead s i m ≤ m ∧ (i ≤ s.size → i + lead s i m ≤ s.size)
  | 0, i => by simp [lead]
  | m + 1, i => by
    have h := lead_le s m (i + 1)
    unfold lead
    split
    · split <;> constructor <;> omega
    · simp

theorem lead_step (s : ByteArray) : ∀ (m i : Nat), lead s i m = m →
    lead s i (m + 1) = if h : i + m < s.size then (if s[i + m] = 32 then m + 1 else m) else m
  | 0, i => by intro _; simp [lead]
  | m + 1, i => by
    intro hm
    have e : lead s i (m + 1 + 1) = if h : i < s.size then (if s[i] = 32 then lead s (i + 1) (m + 1) + 1 else 0) else 0 := rfl
    have e1 : lead s i (m + 1) = if h : i < s.size then (if s[i] = 32 then lead s (i + 1) m + 1 else 0) else 0 := rfl
    rw [e]; rw [e1] at hm
    by_cases h : i < s.size
    · by_cases h2 : s[i] = 32
      · simp only [h, h2, dite_true, if_true] at hm ⊢
        have hm' : lead s (i + 1) m = m := by omega
        rw [lead_step s m (i + 1) hm']
        have ee : i + 1 + m = i + (m + 1) := by omega
        simp only [ee]
        split
        · split <;> rfl
        · rfl
      · simp [h, h2] at hm
    · simp [h] at hm

theorem lead_stop (s : ByteArray) : ∀ (m i n : Nat), lead s i m = m → (∀ h : i + m < s.size, s[i + m] ≠ 32) → lead s i (m + n) = m
  | 0, i, 0 => by intro _ _; rfl
  | 0, i, n + 1 => by
    intro _ h
    have e : lead s i (0 + (n + 1)) = if h : i < s.size then (if s[i] = 32 then lead s (i + 1) n + 1 else 0) else 0 := by
      rw [Nat.zero_add]; rfl
    rw [e]
    split
    · rw [if_neg]; exact h _
    · rfl
  | m + 1, i, n => by
    intro hm h
    have e1 : lead s i (m + 1) = if h : i < s.size then (if s[i] = 32 then lead s (i + 1) m + 1 else 0) else 0 := rfl
    have e : lead s i (m + 1 + n) = if h : i < s.size then (if s[i] = 32 then lead s (i + 1) (m + n) + 1 else 0) else 0 := by
      rw [show m + 1 + n = (m + n) + 1 by omega]; rfl
    rw [e]; rw [e1] at hm
    by_cases h1 : i < s.size
    · by_cases h2 : s[i] = 32
      · simp only [h1, h2, dite_true, if_true] at hm ⊢
        rw [lead_stop s m (i + 1) n (by omega)]
        intro h3
        have := h (by omega)
        simpa [show i + 1 + m = i + (m + 1) by omega] using this
      · simp [h1, h2] at hm
    · simp [h1] at hm

def lineCells (i : Nat) (text : ByteArray) (nl : Int) : Array Value :=
  #[.int .i64 0, .int .i64 i, .int .i64 0, .string text, .int .u8 nl]

/-- Block b is a line, read up to place i. -/
def LineAt (w : World) (b i : Nat) (text : ByteArray) (nl : Int) : Prop := Blk w b (lineCells i text nl) 104

theorem LineAt.facts {w : World} {b i : Nat} {text : ByteArray} {nl : Int} (h : LineAt w b i text nl) :
    w.cell? ⟨b, 0, none⟩ = some (.int .i64 0) ∧ w.cell? ⟨b, 1, none⟩ = some (.int .i64 i) ∧ w.cell? ⟨b, 2, none⟩ = some (.int .i64 0) ∧
    w.cell? ⟨b, 3, none⟩ = some (.string text) ∧ w.cell? ⟨b, 4, none⟩ = some (.int .u8 nl) ∧
    w.frozen? ⟨b, 0, none⟩ = false ∧ w.frozen? ⟨b, 1, none⟩ = false ∧ w.frozen? ⟨b, 2, none⟩ = false ∧ w.frozen? ⟨b, 3, none⟩ = false ∧ w.frozen? ⟨b, 4, none⟩ = false ∧
    b < w.heap.size :=
  ⟨Blk.cell h 0, Blk.cell h 1, Blk.cell h 2, Blk.cell h 3, Blk.cell h 4, Blk.fr h 0, Blk.fr h 1, Blk.fr h 2, Blk.fr h 3, Blk.fr h 4, Blk.lt h⟩

/-- A text of a size that every text of the statements has, without tabs. -/
structure Txt (text : ByteArray) : Prop where
  size : text.size ≤ 1000000
  tab : ∀ j (h : j < text.size), text[j] ≠ 9

/-- What trimSpace answers. -/
def trimOk (text : ByteArray) (i mn mx : Nat) (eol : Bool) : Bool :=
  decide (mn ≤ lead text i mx) || (eol && decide (text.size ≤ i + lead text i mx))

def TW (w : World) (text : ByteArray) (nl : Int) (i : Nat) : World :=
  w.alloc (.cells #[.int .i64 0, .int .i64 i, .int .i64 0, .string text, .int .u8 nl] 104)

def TrimPost (w : World) (b i : Nat) (text : ByteArray) (nl : Int) (mn mx : Nat) (eol : Bool) (e : Ending) (w' : World) : Prop :=
  e = .returned (.bool (trimOk text i mn mx eol)) ∧ Mods (· = b) w w' ∧
    LineAt w' b (if trimOk text i mn mx eol then i + lead text i mx else i) text nl

theorem TrimPost.yes {w : World} {b i : Nat} {text : ByteArray} {nl : Int} {mn mx : Nat} {eol : Bool} {w' : World} (h : trimOk text i mn mx eol = true)
    (hm : Mods (· = b) w w') (hl : LineAt w' b (i + lead text i mx) text nl) : TrimPost w b i text nl mn mx eol (.returned (.bool true)) w' := by
  refine ⟨by rw [h], hm, ?_⟩
  rw [h]; exact hl
theorem TrimPost.no {w : World} {b i : Nat} {text : ByteArray} {nl : Int} {mn mx : Nat} {eol : Bool} {w' : World} (h : trimOk text i mn mx eol = false)
    (hm : Mods (· = b) w w') (hl : LineAt w' b i text nl) : TrimPost w b i text nl mn mx eol (.returned (.bool false)) w' := by
  refine ⟨by rw [h], hm, ?_⟩
  rw [h]; exact hl

theorem line_put {w : World} {b i : Nat} {text : ByteArray} {nl : Int} (hL : LineAt w b i text nl) (i' : Nat) (j : Int) (hj : j = (i' : Int)) (o : Obj) :
    Mods (· = b) w ((((((w.setCell ⟨b, 0, none⟩ (.int .i64 0)).setCell ⟨b, 1, none⟩ (.int .i64 j)).setCell ⟨b, 2, none⟩ (.int .i64 0)).setCell ⟨b, 3, none⟩ (.string text)).setCell ⟨b, 4, none⟩ (.int .u8 nl)).alloc o) ∧
    LineAt ((((((w.setCell ⟨b, 0, none⟩ (.int .i64 0)).setCell ⟨b, 1, none⟩ (.int .i64 j)).setCell ⟨b, 2, none⟩ (.int .i64 0)).setCell ⟨b, 3, none⟩ (.string text)).setCell ⟨b, 4, none⟩ (.int .u8 nl)).alloc o) b i' text nl := by
  subst hj
  constructor
  · exact ((((((Mods.refl (fun k => k = b) w).setCell (p := ⟨b, 0, none⟩) (fun _ => rfl) _).setCell (p := ⟨b, 1, none⟩) (fun _ => rfl) _).setCell (p := ⟨b, 2, none⟩) (fun _ => rfl) _).setCell (p := ⟨b, 3, none⟩) (fun _ => rfl) _).setCell (p := ⟨b, 4, none⟩) (fun _ => rfl) _).alloc _
  · exact Blk.alloc (((((Blk.set_same hL 0 _).set_same 1 _).set_same 2 _).set_same 3 _).set_same 4 _) _

theorem ne32 {c : UInt8} (h : c ≠ 32) : (c.toNat : Int) ≠ 32 := fun e => h (UInt8.toNat_inj.1 (by show _ = 32; omega))
theorem ne9 {c : UInt8} (h : c ≠ 9) : (c.toNat : Int) ≠ 9 := fun e => h (UInt8.toNat_inj.1 (by show _ = 9; omega))

set_option maxHeartbeats 1000000 in
theorem trimSpace_any (b : Nat) (text : ByteArray) (i mn mx : Nat) (eol : Bool) (nl : Int) (w : World) (hmn : mn ≤ mx) (hmx : mx ≤ 4) (hi : i ≤ text.size) (ht : Txt text)
   (hL : LineAt w b i text nl) :
    Calls Tryz.prog 153 #[.pointer (some ⟨b, 0, none⟩), .int .i64 mn, .int .i64 mx, .bool eol] w (TrimPost w b i text nl mn mx eol) := by
  obtain ⟨h0, h1, h2, h3, h4, hf0, hf1, hf2, hf3, hf4, hbl⟩ := hL.facts
  have HT := Lib.hid ht.tab
  have hs := ht.size
  clear ht
  go_enter Tryz.func153, Tryz.ntmps153
  go_wp2
  go_loopw [10] (fun n wr => ∃ k m : Nat, n = .int .i64 k ∧ k ≤ mx ∧ lead text i m = m ∧ m ≤ k ∧ (m = k ∨ (text.size ≤ i + m ∧ eol = true)) ∧
      wr = TW w text nl (i + m)) (fun n _ => mx - (intOf n).toNat)
  case atStart => exact ⟨0, 0, rfl, Nat.zero_le _, rfl, Nat.le_refl _, Or.inl rfl, rfl⟩
  case round =>
    obtain ⟨k, m, rfl, hk, hm, hmk, hor, rfl⟩ := hrel
    have hB := (lead_le text m i).2 hi
    rw [hm] at hB
    have HO := Lib.hid hor
    have HST := Lib.hid (lead_step text m i hm)
    have HSP := Lib.hid (fun n => lead_stop text m i n hm)
    have HM := Lib.hid hm
    clear hor hm
    unfold TW
    by_cases hn : k < mx
    · by_cases hend : i + m < text.size
      · have htb := HT.out (i + m) hend
        have hkm : m = k := by have := HO.out; omega
        subst hkm
        by_cases hsp : text[i + m] = 32
        · have E1 : Hid (lead text i (m + 1) = m + 1) := by
            have := HST.out; rw [dif_pos hend, if_pos hsp] at this; exact this
          go_wp2
          go_roundw
          case rel => exact ⟨m + 1, m + 1, by go_num, by omega, E1.out, Nat.le_refl _, Or.inl rfl, by go_num⟩
          case measure => simp [intOf]; omega
        · have E1 : Hid (lead text i mx = m) := by
            have := HSP.out (mx - m) (fun _ => hsp)
            rwa [show m + (mx - m) = mx by omega] at this
          have hsp' := ne32 hsp
          have htb' := ne9 htb
          clear hsp htb
          by_cases hmin : mn ≤ m
          · have HY : Hid (trimOk text i mn mx eol = true) := by show trimOk _ _ _ _ _ = true; simp [trimOk, E1.out, hmin]
            go_wp2
            go_ret
            exact TrimPost.yes HY.out (line_put hL (i + m) _ (by go_num) _).1 (by rw [E1.out]; exact (line_put hL (i + m) _ (by go_num) _).2)
          · have HY : Hid (trimOk text i mn mx eol = false) := by show trimOk _ _ _ _ _ = false; simp [trimOk, E1.out, hmin]; intro _; omega
            go_wp2
            go_ret
            exact TrimPost.no HY.out ((Mods.refl _ w).alloc _) (Blk.alloc hL _)
      · have hA : ∀ n, lead text i (m + n) = m := fun n => HSP.out n (fun h => absurd h hend)
        have E1 : Hid (lead text i mx = m) := by
          have := hA (mx - m); rwa [show m + (mx - m) = mx by omega] at this
        clear hA
        cases eol
        · have hkm : m = k := by have := HO.out; simpa using this
          subst hkm
          by_cases hmin : mn ≤ m
          · have HY : Hid (trimOk text i mn mx false = true) := by show trimOk _ _ _ _ _ = true; simp [trimOk, E1.out, hmin]
            go_wp2
            go_ret
            exact TrimPost.yes HY.out (line_put hL (i + m) _ (by go_num) _).1 (by rw [E1.out]; exact (line_put hL (i + m) _ (by go_num) _).2)
          · have HY : Hid (trimOk text i mn mx false = false) := by show trimOk _ _ _ _ _ = false; simp [trimOk, E1.out, hmin]
            go_wp2
            go_ret
            exact TrimPost.no HY.out ((Mods.refl _ w).alloc _) (Blk.alloc hL _)
        · have hsz : text.size ≤ i + m := by omega
          go_wp2
          go_roundw
          case rel => exact ⟨k + 1, m, by go_num, by omega, HM.out, by omega, Or.inr ⟨hsz, trivial⟩, rfl⟩
          case measure => simp [intOf]; omega
    · have hkm : k = mx := by omega
      have e1 : lead text i mx = m := by
        rcases HO.out with h | h
        · rw [← hkm, ← h]; exact HM.out
        · have := HSP.out (mx - m) (fun h' => absurd h' (by omega))
          rwa [show m + (mx - m) = mx by omega] at this
      have hok : trimOk text i mn mx eol = true := by
        rcases HO.out with h | h
        · simp [trimOk, e1]; left; omega
        · simp [trimOk, e1]; right; exact ⟨h.2, h.1⟩
      have E1 := Lib.hid e1
      have HK := Lib.hid hok
      clear e1 hok
      go_wp2
      go_ret
      exact TrimPost.yes HK.out (line_put hL (i + m) _ (by go_num) _).1 (by rw [E1.out]; exact (line_put hL (i + m) _ (by go_num) _).2)
end Go.Proofs.YtdnlfdppjfjncaaGreatDoor
