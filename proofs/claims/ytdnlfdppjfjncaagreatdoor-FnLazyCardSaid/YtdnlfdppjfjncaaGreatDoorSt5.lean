/- Some texts of one proof, put into one file: Print3, Pairs, PrintA, Print4, Print5, Print6, Law1, Law2. -/
import Derived.Lib.BufferOld
import Derived.Deep.RegionHeld3
import Derived.Great.Walk
import Derived.Test.YtdnlfdppjfjncaaGreatDoorSt4
/- Plain, Escaped, Text, Paragraph, Document to HTML. -/
namespace Go.Proofs.YtdnlfdppjfjncaaGreatDoor
open Go Go.RowKit Go.Proofs

theorem Wrote.alloc {w w1 : World} {B b : Nat} {l : List UInt8} (h : Wrote w w1 B b l) (hB : B ≤ w.heap.size) (o : Obj) : Wrote w (w1.alloc o) B b l :=
  ⟨h.buf.alloc o, h.below.alloc (Nat.le_trans hB h.below.size) o, h.others.alloc o⟩

theorem htmlEscaper_at (w : World) (n : Nat) (hn : w.heap.size = n) :
    Calls Tryz.prog 265 #[] w fun e w' => e = .returned (.slice (some ⟨n, 0, none⟩) 8 8) ∧ w' = w.alloc (.cells escCells 9) := by
  subst hn
  exact htmlEscaper_any w

theorem plain_print (B b xb : Nat) (l : List UInt8) (t : ByteArray) (w : World) (h : Lib.IsBuffer 72 5 B b (Lib.byteCells l) w) (hB : B ≤ w.heap.size) (hl : l.length ≤ 10000000) (ht : t.size ≤ 1000000) (hX : w.cell? ⟨xb, 0, none⟩ = some (.string t)) (_hXl : xb < B) :
    Calls Tryz.prog 262 #[.pointer (some ⟨xb, 0, none⟩), .pointer (some ⟨b, 0, none⟩)] w fun e w' => e = .returned (.tuple #[]) ∧ Wrote w w' B b (l ++ escN t t.size) := by
  go_enter Tryz.func262, Tryz.ntmps262
  go_wp2_with fail
  have hbl := h.lt
  have hd : Wrote w w.drew B b l := ⟨h, ⟨rfl, rfl, rfl, Nat.le_refl _, fun _ _ => rfl⟩, (Lib.OthersKept.refl _ _ w).drew⟩
  have h0 : Wrote w (w.drew.alloc (.cells escCells 9)) B b l := Wrote.alloc hd hB _
  have hX0 : w.drew.cell? ⟨xb, 0, none⟩ = some (.string t) := hX
  have hX1 : (w.drew.alloc (.cells escCells 9)).cell? ⟨xb, 0, none⟩ = some (.string t) := by
    rw [← hX0]; exact World.cell?_of_block (Below.heap_alloc _ _ _ (World.block_lt_of_cell? _ _ hX0))
  have hK : Blk (w.drew.alloc (.cells escCells 9)) w.heap.size escCells 9 := Blk.newAt (w := w.drew) _ _ rfl
  have HW := esc_write B b w.heap.size l t _ h0.buf (Nat.le_trans hB h0.below.size) hl ht hK (by omega)
  generalize hY : (w.drew.alloc (.cells escCells 9) : World) = Y at *
  go_region_with (first
    | (go_at_call 265; refine (htmlEscaper_at w.drew w.heap.size rfl).mono ?_; rintro e w1 ⟨rfl, hw1⟩; rw [hY] at hw1; subst hw1)
    | (go_at_call 266; refine HW.mono ?_; rintro e w2 ⟨rfl, h2⟩))
  all_goals
    go_wp2_with fail
    go_end0
    exact ⟨rfl, h0.trans h2⟩
end Go.Proofs.YtdnlfdppjfjncaaGreatDoor

/- zzPairs with any table of bytes and texts: WriteString, Replace; the escapers as such tables. -/
namespace Go.Proofs.YtdnlfdppjfjncaaGreatDoor
open Go Go.RowKit Go.Proofs

/-- A table: a byte, and the text that is put in its place. -/
abbrev Tab := List (UInt8 × ByteArray)
def tabL (t : Tab) : List Value := t.flatMap (fun p => [Value.string ⟨#[p.1]⟩, Value.string p.2])
def tabCells (t : Tab) : Array Value := (tabL t).toArray

theorem tabL_get : ∀ (t : Tab) (j : Nat) (p : UInt8 × ByteArray), t[j]? = some p → (tabL t)[2 * j]? = some (.string ⟨#[p.1]⟩) ∧ (tabL t)[2 * j + 1]? = some (.string p.2)
  | [], j, p, h => by simp at h
  | q :: t, 0, p, h => by
    have : q = p := by simpa using h
    subst this
    exact ⟨rfl, rfl⟩
  | q :: t, j + 1, p, h => by
    have h' : t[j]? = some p := by simpa using h
    obtain ⟨a, b⟩ := tabL_get t j p h'
    have e1 : 2 * (j + 1) = 2 * j + 1 + 1 := by omega
    rw [e1]
    exact ⟨a, b⟩

theorem tab_at {w : World} {K : Nat} {t : Tab} (h : Blk w K (tabCells t) 9) {j : Nat} {p : UInt8 × ByteArray} (hp : t[j]? = some p) :
    w.cell? ⟨K, 2 * j, none⟩ = some (.string ⟨#[p.1]⟩) ∧ w.cell? ⟨K, 2 * j + 1, none⟩ = some (.string p.2) := by
  obtain ⟨a, b⟩ := tabL_get t j p hp
  constructor
  · rw [h.cell]; simpa [tabCells] using a
  · rw [h.cell]; simpa [tabCells] using b

/-- What the table makes of a byte. -/
def lk : Tab → UInt8 → List UInt8
  | [], c => [c]
  | p :: t, c => if c = p.1 then p.2.data.toList else lk t c

theorem lk_hit : ∀ {t : Tab} {j : Nat} {p : UInt8 × ByteArray} {c : UInt8}, t[j]? = some p → (∀ (i : Nat) (q : UInt8 × ByteArray), i < j → t[i]? = some q → c ≠ q.1) → c = p.1 → lk t c = p.2.data.toList
  | [], j, p, c, h, _, _ => by simp at h
  | q :: t, 0, p, c, h, _, hc => by
    have : q = p := by simpa using h
    subst this
    rw [lk, if_pos hc]
  | q :: t, j + 1, p, c, h, hn, hc => by
    have h0 : c ≠ q.1 := hn 0 q (by omega) rfl
    rw [lk, if_neg h0]
    exact lk_hit (by simpa using h) (fun i r hi hr => hn (i + 1) r (by omega) (by simpa using hr)) hc

theorem lk_miss : ∀ {t : Tab} {c : UInt8}, (∀ (i : Nat) (q : UInt8 × ByteArray), t[i]? = some q → c ≠ q.1) → lk t c = [c]
  | [], c, _ => rfl
  | q :: t, c, hn => by
    rw [lk, if_neg (hn 0 q rfl)]
    exact lk_miss (fun i r hr => hn (i + 1) r (by simpa using hr))

/-- Texts of at most six bytes, of a table not too long. -/
structure TabOk (t : Tab) : Prop where
  len : t.length ≤ 1000
  six : ∀ p ∈ t, p.2.size ≤ 6

theorem lk_len : ∀ {t : Tab}, (∀ p ∈ t, p.2.size ≤ 6) → ∀ c, (lk t c).length ≤ 6
  | [], _, c => by simp [lk]
  | q :: t, h, c => by
    rw [lk]
    split
    · have := h q List.mem_cons_self
      have e : q.2.data.toList.length = q.2.size := rfl
      omega
    · exact lk_len (fun p hp => h p (List.mem_cons_of_mem _ hp)) c

def lkN (t : Tab) (s : ByteArray) (i : Nat) : List UInt8 := (s.data.toList.take i).flatMap (lk t)

theorem lkN_all (t : Tab) (s : ByteArray) : lkN t s s.size = s.data.toList.flatMap (lk t) := by
  unfold lkN
  have : s.size = s.data.toList.length := rfl
  rw [this, List.take_length]

theorem lkN_succ (t : Tab) (s : ByteArray) (i : Nat) (h : i < s.size) : lkN t s (i + 1) = lkN t s i ++ lk t s[i] := by
  unfold lkN
  have h' : i < s.data.toList.length := by simpa using h
  rw [List.take_succ_eq_append_getElem h', List.flatMap_append]
  simp
  rfl

theorem lkN_len {t : Tab} (ht : TabOk t) (s : ByteArray) : ∀ i, i ≤ s.size → (lkN t s i).length ≤ 6 * i
  | 0, _ => by simp [lkN]
  | i + 1, h => by
    have h1 := lkN_len ht s i (by omega)
    have h2 := lk_len ht.six (s[i]'(by omega))
    rw [lkN_succ t s i (by omega), List.length_append]
    omega

theorem lkN_bound {t : Tab} (ht : TabOk t) {l : List UInt8} {s : ByteArray} {i : Nat} (hl : l.length ≤ 10000000) (hi : i ≤ s.size) (hs : s.size ≤ 1000000) : (l ++ lkN t s i).length ≤ 100000000 := by
  have := lkN_len ht s i hi
  rw [List.length_append]
  omega

theorem tab_nth {t : Tab} {j : Nat} (h : j < t.length) : ∃ p, t[j]? = some p := ⟨t[j], List.getElem?_eq_getElem h⟩

set_option maxRecDepth 100000 in
set_option maxHeartbeats 8000000 in
theorem pairs_write (t : Tab) (ht : TabOk t) (B b K n : Nat) (hn : n = 2 * t.length) (l : List UInt8) (s : ByteArray) (w : World) (h : Lib.IsBuffer 72 5 B b (Lib.byteCells l) w) (hB : B ≤ w.heap.size) (hl : l.length ≤ 10000000) (hs : s.size ≤ 1000000) (hK : Blk w K (tabCells t) 9) (hKb : K ≠ b) :
    Calls Tryz.prog 266 #[.slice (some ⟨K, 0, none⟩) n n, .pointer (some ⟨b, 0, none⟩), .string s] w fun e w' => e = .returned (.tuple #[]) ∧ Wrote w w' B b (l ++ lkN t s s.size) := by
  have HN := Lib.hid hn
  have htl := ht.len
  have hn9 : n ≤ 2000 := by omega
  clear hn
  go_enter Tryz.func266, Tryz.ntmps266
  go_wp2_with fail
  go_step3
  go_wp2_with fail
  go_step3
  go_wp2_with fail
  go_loopg [6] s.size (fun m v6 wr => ∃ i : Nat, v6 = .int .i64 i ∧ m = s.size - i ∧ i ≤ s.size ∧ Wrote w wr B b (l ++ lkN t s i))
  case atStart => exact ⟨0, rfl, rfl, Nat.zero_le _, by simpa [lkN] using h, Below.refl _ _, Lib.OthersKept.refl _ _ _⟩
  case round =>
    obtain ⟨i, rfl, rfl, hi, hW⟩ := hrel
    have hK1 := blk_others hK hW.others hKb (by decide)
    have HW := Lib.hid hW
    clear hW
    by_cases hlt : i < s.size
    · have w1 : (i : Int) < s.size := by omega
      have w2 : (0 : Int) ≤ i := by omega
      have w3 : IntKind.i64.wrap ((i : Int) + 1) = (i : Int) + 1 := IntWalk.i64_in _ (by omega)
      go_wp2_with fail
      go_loopg [7] t.length (fun m v7 wx => (Wrote w wx B b (l ++ lkN t s i) ∧ Blk wx K (tabCells t) 9) ∧ ∃ j k : Nat, k = 2 * j ∧ v7 = .int .i64 k ∧ m = t.length - j ∧ j ≤ t.length ∧ ∀ (i' : Nat) (q : UInt8 × ByteArray), i' < j → t[i']? = some q → s[i] ≠ q.1)
      case atStart => exact ⟨⟨HW.out, hK1⟩, 0, 0, rfl, rfl, rfl, Nat.zero_le _, fun i' q h _ => absurd h (Nat.not_lt_zero _)⟩
      case round =>
        clear HW hK1
        obtain ⟨⟨hW2, hK2⟩, j, k, hk, rfl, rfl, hj, hno⟩ := hrel
        have HW := Lib.hid hW2
        have HK := Lib.hid hk
        have HNO := Lib.hid hno
        have hkn : k ≤ n := by have := HN.out; omega
        clear hW2 hno
        by_cases hjl : j < t.length
        · obtain ⟨p, hp⟩ := tab_nth hjl
          obtain ⟨k0, k1⟩ := tab_at hK2 hp
          rw [← hk] at k0 k1
          have HP := Lib.hid hp
          have v1 : (k : Int) < n := by have := HN.out; omega
          have v2 : (0 : Int) ≤ k := by omega
          have v3 : IntKind.i64.wrap ((k : Int) + 1) = (k : Int) + 1 := IntWalk.i64_in _ (by omega)
          have v4 : (k : Int) + 1 < n := by have := HN.out; omega
          have v5 : (0 : Int) ≤ (k : Int) + 1 := by omega
          have v6 : ((k : Int) + 1).toNat = k + 1 := by omega
          have v7 : IntKind.i64.wrap ((k : Int) + 2) = (k : Int) + 2 := IntWalk.i64_in _ (by omega)
          have z : (((⟨#[p.1]⟩ : ByteArray)[0]'Nat.zero_lt_one).toNat : Int) = p.1.toNat := rfl
          have hp6 : p.2.size ≤ 6 := ht.six p (List.mem_of_getElem? hp)
          clear hk hp
          by_cases hc : s[i] = p.1
          · have hcb : ((s[i].toNat : Int) == (p.1.toNat : Int)) = true := by rw [hc]; simp
            have hesc : lkN t s (i + 1) = lkN t s i ++ p.2.data.toList := by rw [lkN_succ t s i hlt, lk_hit HP.out HNO.out hc]
            have Hc := Lib.hid hesc
            clear hc hesc
            go_wp2_with fail
            go_quiet (fail)
            go_wp2_with fail
            refine (write_string B b _ p.2 _ (HW.out.drewN nq).buf (Nat.le_trans hB (HW.out.drewN nq).below.size) (lkN_bound ht hl hi hs) (by omega)).mono ?_
            rintro e w5 ⟨rfl, hW5⟩
            go_wp2_with fail
            go_roundg (s.size - (i + 1))
            case measure => omega
            case rel => exact ⟨i + 1, by simp, rfl, by omega, by rw [Hc.out, ← List.append_assoc]; exact (HW.out.drewN nq).trans hW5⟩
          · have hcb : ((s[i].toNat : Int) == (p.1.toNat : Int)) = false := beq_eq_false_iff_ne.2 (fun he => hc (UInt8.toNat_inj.1 (by omega)))
            have Hc := Lib.hid hc
            clear hc
            go_wp2_with fail
            go_quiet (fail)
            go_wp2_with fail
            go_roundg (t.length - (j + 1))
            case measure => omega
            case rel =>
              refine ⟨⟨HW.out.drewN nq, hK2.drewN nq⟩, j + 1, k + 2, by have := HK.out; omega, by simp, rfl, by omega, ?_⟩
              intro i' q hi' hq
              by_cases he : i' = j
              · subst he
                have : q = p := Option.some.inj (hq.symm.trans HP.out)
                rw [this]; exact Hc.out
              · exact HNO.out i' q (by omega) hq
        · have hjn : j = t.length := by omega
          have v1 : ¬ ((k : Int) < n) := by have := HN.out; have := HK.out; omega
          have hesc : lkN t s (i + 1) = lkN t s i ++ [s[i]] := by
            rw [lkN_succ t s i hlt, lk_miss]
            intro i' q hq
            have := (List.getElem?_eq_some_iff.1 hq).1
            exact HNO.out i' q (by omega) hq
          have Hc := Lib.hid hesc
          clear hesc hk
          go_wp2_with fail
          refine (write_byte B b _ s[i] _ HW.out.buf (Nat.le_trans hB HW.out.below.size) (lkN_bound ht hl hi hs)).mono ?_
          rintro e w5 ⟨rfl, hW5⟩
          go_wp2_with fail
          go_roundg (s.size - (i + 1))
          case measure => omega
          case rel => exact ⟨i + 1, by simp, rfl, by omega, by rw [Hc.out, ← List.append_assoc]; exact HW.out.trans hW5⟩
    · have hin : i = s.size := by omega
      have w1 : ¬ ((i : Int) < s.size) := by omega
      subst hin
      go_wp2_with fail
      go_end0
      exact ⟨rfl, HW.out⟩

theorem Wrote.same0 {w w' : World} {B b : Nat} {l : List UInt8} (h : Wrote w w' B b l) (hB : w.heap.size ≤ B) : Same w w' :=
  ⟨h.below.os, h.below.tape, h.below.output, h.below.size, fun k hk _ => h.below.block k (Nat.lt_of_lt_of_le hk hB)⟩

theorem Wrote.from0 {w0 w w' : World} {B b : Nat} {l : List UInt8} (hS : Same w0 w) (hB : w0.heap.size ≤ B) (h : Wrote w w' B b l) : Same w0 w' :=
  Mods.then hS (Below.mods (S := fun k => B ≤ k) h.below (fun k _ hk => hk)) (fun b hb hk => by omega)

set_option maxRecDepth 100000 in
set_option maxHeartbeats 4000000 in
theorem pairs_replace (t : Tab) (ht : TabOk t) (K n : Nat) (hn : n = 2 * t.length) (s : ByteArray) (w : World) (hs : s.size ≤ 1000000) (hK : Blk w K (tabCells t) 9) :
    Calls Tryz.prog 273 #[.slice (some ⟨K, 0, none⟩) n n, .string s] w fun e w' => e = .returned (.string ⟨(lkN t s s.size).toArray⟩) ∧ Same w w' := by
  have hKl := hK.lt
  have HN := Lib.hid hn
  clear hn
  go_enter Tryz.func273, Tryz.ntmps273
  go_wp2_with fail
  have hF := Lib.fresh_isBuffer 72 5 w
  have hS : Same w (w.alloc (.cells #[.slice none 0 0, .int .i64 0, .int .i8 0] 72)) := (Mods.refl _ w).alloc _
  have hK1 := hS.blk hK
  generalize hW : (w.alloc _ : World) = W at *
  refine (pairs_write t ht w.heap.size w.heap.size K n HN.out [] s W hF hS.size (by simp) hs hK1 (by omega)).mono ?_
  rintro e w1 ⟨rfl, h1⟩
  have hS1 := Wrote.from0 hS (Nat.le_refl _) h1
  go_wp2_with fail
  refine (Tryz.Buffer_String w.heap.size w.heap.size _ w1 h1.buf).mono ?_
  rintro e w2 ⟨rfl, k, rfl⟩
  go_wp2_with fail
  go_ret
  exact ⟨rfl, hS1.drewN k⟩

theorem Wrote.keep {w w1 w2 : World} {B b : Nat} {l : List UInt8} (h : Wrote w w1 B b l) (hB : B ≤ w.heap.size) (hS : Same w1 w2) : Wrote w w2 B b l := by
  have hb : Below w1.heap.size w1 w2 := hS.below (Nat.le_refl _) (fun _ _ x => x)
  exact ⟨h.buf.old hb, h.below.trans (hS.below (Nat.le_trans hB h.below.size) (fun _ _ x => x)), h.others.below hb⟩

/-- The tables of the escapers. -/
def escTab : Tab := [(34, ⟨#[38, 113, 117, 111, 116, 59]⟩), (38, ⟨#[38, 97, 109, 112, 59]⟩), (60, ⟨#[38, 108, 116, 59]⟩), (62, ⟨#[38, 103, 116, 59]⟩)]
theorem escTab_cells : tabCells escTab = escCells := rfl
theorem escTab_ok : TabOk escTab := ⟨by decide +kernel, by decide +kernel⟩
theorem escTab_lk (c : UInt8) : lk escTab c = escB c := by
  unfold escTab escB lk lk lk lk lk
  rfl
theorem escTab_lkN (s : ByteArray) (i : Nat) : lkN escTab s i = escN s i := by
  unfold lkN escN
  have : lk escTab = escB := funext escTab_lk
  rw [this]

def hex1 (n : Nat) : UInt8 := if n < 10 then UInt8.ofNat (48 + n) else UInt8.ofNat (55 + n)
def pct (c : Nat) : UInt8 × ByteArray := (UInt8.ofNat c, ⟨#[37, hex1 (c / 16), hex1 (c % 16)]⟩)
def linkTab : Tab := [pct 34, (38, ⟨#[38, 97, 109, 112, 59]⟩)] ++ ([60, 62, 92, 32, 96, 91, 93, 94, 123, 125] ++ [0, 1, 2, 3, 4, 5, 6, 7, 8, 11, 12] ++ (List.range 18).map (· + 14) ++ (List.range 129).map (· + 127)).map pct
set_option maxRecDepth 100000 in
theorem linkTab_ok : TabOk linkTab := ⟨by decide +kernel, by decide +kernel⟩
end Go.Proofs.YtdnlfdppjfjncaaGreatDoor

/- AutoLink to HTML. -/
namespace Go.Proofs.YtdnlfdppjfjncaaGreatDoor
open Go Go.RowKit Go.Proofs Go.Great

set_option maxRecDepth 100000 in
set_option maxHeartbeats 4000000 in
theorem linkEscaper_at (w : World) : Calls Tryz.prog 272 #[] w fun e w' => e = .returned (.slice (some ⟨w.heap.size, 0, none⟩) (2 * linkTab.length) (2 * linkTab.length)) ∧ w' = w.alloc (.cells (tabCells linkTab) 9) := by
  go_enter Tryz.func272, Tryz.ntmps272
  go_upto_region 1 with (fail)
  apply wp_region_lit
  refine wpList_buildSliceTo rfl 346 9 340 _ rfl w.heap.size rfl (some 1) rfl Tryz.underlying346 (tabCells linkTab) ?_ ?_
  · as_aux_lemma => kernel_rfl
  refine wpList_readTo rfl (some 0) rfl (.slice (some ⟨w.heap.size, 0, none⟩) 340 340) rfl ?_
  apply wpList_nil
  rename_i K hK
  refine hK _ _ ?_
  clear hK
  go_wp2
  go_ret
  exact ⟨rfl, rfl⟩

/-- The HTML of an automatic link with the text t to u. -/
def autoOut (t u : ByteArray) : List UInt8 := [60, 97, 32, 104, 114, 101, 102, 61, 34] ++ lkN linkTab u u.size ++ [34, 62] ++ escN t t.size ++ [60, 47, 97, 62]

theorem autoOut_len (t u : ByteArray) : (autoOut t u).length ≤ 6 * u.size + 6 * t.size + 15 := by
  have h1 := lkN_len linkTab_ok u u.size (Nat.le_refl _)
  have h2 := escN_len t t.size (Nat.le_refl _)
  simp only [autoOut, List.length_append, List.length_cons, List.length_nil]
  omega

theorem auto_text (t u R1 R2 : ByteArray) (h1 : R1 = ⟨(lkN linkTab u u.size).toArray⟩) (h2 : R2 = ⟨(lkN escTab t t.size).toArray⟩) :
    ((((⟨#[60, 97, 32, 104, 114, 101, 102, 61, 34]⟩ : ByteArray) ++ R1) ++ (⟨#[34, 62]⟩ : ByteArray)) ++ R2 ++ (⟨#[60, 47, 97, 62]⟩ : ByteArray)).data.toList = autoOut t u := by
  subst h1 h2
  simp [autoOut, escTab_lkN]

def AutoTab (w : World) (xb : Nat) (t u : ByteArray) (T : Tab) (n : Nat) (e : Ending) (V' : World) : Prop :=
  ∃ K, e = .returned (.slice (some ⟨K, 0, none⟩) n n) ∧ Same w V' ∧ Blk V' K (tabCells T) 9 ∧ V'.cell? ⟨xb, 0, none⟩ = some (.string t) ∧ V'.cell? ⟨xb, 1, none⟩ = some (.string u)
def AutoRep (w : World) (xb : Nat) (t u R : ByteArray) (e : Ending) (V' : World) : Prop :=
  e = .returned (.string R) ∧ Same w V' ∧ V'.cell? ⟨xb, 0, none⟩ = some (.string t) ∧ V'.cell? ⟨xb, 1, none⟩ = some (.string u)

structure RepOk (T : Tab) (n : Nat) (s R : ByteArray) : Prop where
  ok : TabOk T
  len : n = 2 * T.length
  small : s.size ≤ 100000
  out : R = ⟨(lkN T s s.size).toArray⟩

set_option maxRecDepth 100000 in
set_option maxHeartbeats 8000000 in
theorem auto_print (B b xb : Nat) (l : List UInt8) (t u : ByteArray) (w : World) (h : Lib.IsBuffer 72 5 B b (Lib.byteCells l) w) (hB : B ≤ w.heap.size) (hl : l.length ≤ 10000000) (ht : t.size ≤ 100000) (hu : u.size ≤ 100000) (hX : Blk w xb #[.string t, .string u] 264) (hXl : xb < B) :
    Calls Tryz.prog 346 #[.pointer (some ⟨xb, 0, none⟩), .pointer (some ⟨b, 0, none⟩)] w fun e w' => e = .returned (.tuple #[]) ∧ Wrote w w' B b (l ++ autoOut t u) := by
  obtain ⟨N, HN⟩ : ∃ N, Hid (N = 2 * linkTab.length) := ⟨_, Lib.hid rfl⟩
  obtain ⟨R1, HR1⟩ : ∃ R, Hid (R = (⟨(lkN linkTab u u.size).toArray⟩ : ByteArray)) := ⟨_, Lib.hid rfl⟩
  obtain ⟨R2, HR2⟩ : ∃ R, Hid (R = (⟨(lkN escTab t t.size).toArray⟩ : ByteArray)) := ⟨_, Lib.hid rfl⟩
  have s1 : R1.size ≤ 600000 := by
    have := lkN_len linkTab_ok u u.size (Nat.le_refl _)
    rw [HR1.out]
    show (lkN linkTab u u.size).length ≤ 600000
    omega
  have s2 : R2.size ≤ 600000 := by
    have := lkN_len escTab_ok t t.size (Nat.le_refl _)
    rw [HR2.out]
    show (lkN escTab t t.size).length ≤ 600000
    omega
  have HT := Lib.hid (auto_text t u R1 R2 HR1.out HR2.out)
  have cc : ∀ V, Same w V → V.cell? ⟨xb, 0, none⟩ = some (.string t) ∧ V.cell? ⟨xb, 1, none⟩ = some (.string u) := fun V hV => ⟨(hV.blk hX).cell 0, (hV.blk hX).cell 1⟩
  have HC := Lib.hid cc
  have C1 : ∀ V, Same w V → Calls Tryz.prog 272 #[] V (AutoTab w xb t u linkTab N) := fun V hV =>
    (linkEscaper_at V).mono fun e V' ⟨h1, h2⟩ => by
      subst h2
      have hS : Same w (V.alloc (.cells (tabCells linkTab) 9)) := hV.alloc _
      exact ⟨V.heap.size, by rw [h1, HN.out], hS, Blk.newAt _ _ rfl, HC.out _ hS⟩
  have C3 : ∀ V, Same w V → Calls Tryz.prog 265 #[] V (AutoTab w xb t u escTab 8) := fun V hV =>
    (htmlEscaper_at V _ rfl).mono fun e V' ⟨h1, h2⟩ => by
      subst h2
      have hS : Same w (V.alloc (.cells escCells 9)) := hV.alloc _
      exact ⟨V.heap.size, h1, hS, Blk.newAt _ _ rfl, HC.out _ hS⟩
  have r1 : RepOk linkTab N u R1 := ⟨linkTab_ok, HN.out, by omega, HR1.out⟩
  have r2 : RepOk escTab 8 t R2 := ⟨escTab_ok, rfl, by omega, HR2.out⟩
  have CR : ∀ V K n s T R, Same w V → Blk V K (tabCells T) 9 → RepOk T n s R → Calls Tryz.prog 273 #[.slice (some ⟨K, 0, none⟩) n n, .string s] V (AutoRep w xb t u R) := fun V K n s T R hV hK hR =>
    (pairs_replace T hR.ok K n hR.len s V (by have := hR.small; omega) hK).mono fun e V' ⟨h1, h2⟩ => ⟨by rw [h1, hR.out], hV.trans h2, HC.out _ (hV.trans h2)⟩
  have C5 : ∀ V, Same w V → Calls Tryz.prog 253 #[.pointer (some ⟨b, 0, none⟩), .string ((((⟨#[60, 97, 32, 104, 114, 101, 102, 61, 34]⟩ : ByteArray) ++ R1) ++ (⟨#[34, 62]⟩ : ByteArray)) ++ R2 ++ (⟨#[60, 47, 97, 62]⟩ : ByteArray))] V
      fun e V' => (∃ n : Int, e = .returned (.tuple #[.int .i64 n, .nilIface])) ∧ Wrote w V' B b (l ++ autoOut t u) ∧ V'.cell? ⟨xb, 0, none⟩ = some (.string t) ∧ V'.cell? ⟨xb, 1, none⟩ = some (.string u) := fun V hV => by
    have hW : Wrote w V B b l := Wrote.keep ⟨h, Below.refl _ _, Lib.OthersKept.refl _ _ _⟩ hB hV
    have hz := hV.size
    refine (write_string B b l _ V hW.buf (by omega) (by omega) ?_).mono ?_
    · simp only [ByteArray.size_append]
      show 9 + R1.size + 2 + R2.size + 4 ≤ 100000000
      omega
    · rintro e V' ⟨rfl, h2⟩
      rw [HT.out] at h2
      have h3 := hW.trans h2
      have hb := h3.below.block xb hXl
      exact ⟨⟨_, rfl⟩, h3, (World.cell?_of_block hb).trans (hX.cell 0), (World.cell?_of_block hb).trans (hX.cell 1)⟩
  have f7 : ¬ (9223372036854775807 < 9 + R1.size) := by omega
  have f8 : ¬ (9223372036854775807 < 9 + R1.size + 2) := by omega
  have f9 : ¬ (9223372036854775807 < 9 + R1.size + 2 + R2.size) := by omega
  have f10 : ¬ (9223372036854775807 < 9 + R1.size + 2 + R2.size + 4) := by omega
  obtain ⟨c0, c1⟩ := cc w (Mods.refl _ _)
  obtain ⟨d0, d1⟩ := cc w.drew ((Mods.refl _ _).drew)
  clear cc
  go_enter Tryz.func346, Tryz.ntmps346
  go_wp2_with fail
  go_region_held3 (fun w' => w'.cell? ⟨xb, 0, none⟩ = some (.string t) ∧ w'.cell? ⟨xb, 1, none⟩ = some (.string u)) (first | exact ⟨by assumption, by assumption⟩)
    (first
      | (go_at_call 272; refine (C1 _ (by repeat (first | assumption | exact Mods.refl _ _ | apply Mods.drew))).mono ?_; rintro e w1 ⟨K1, rfl, hS1, hK1, x0, x1⟩)
      | (go_at_call 265; refine (C3 _ (by assumption)).mono ?_; rintro e w3 ⟨K3, rfl, hS3, hK3, x0, x1⟩)
      | (go_at_call 273; refine (CR _ _ _ _ _ _ (by assumption) (by assumption) (by assumption)).mono ?_; rintro e w2 ⟨rfl, hS2, x0, x1⟩)
      | (go_at_call 253; refine (C5 _ (by assumption)).mono ?_; rintro e w5 ⟨⟨n5, rfl⟩, hW5, x0, x1⟩))
  all_goals
    go_wp2_with fail
    go_end0
    exact ⟨rfl, hW5⟩
end Go.Proofs.YtdnlfdppjfjncaaGreatDoor

/- Text, Paragraph, Document to HTML. -/
namespace Go.Proofs.YtdnlfdppjfjncaaGreatDoor
open Go Go.RowKit Go.Proofs

theorem m_print_plain (k : Nat) (a : Addr) (w : World) : (method (k + 1) 156 (.pointer (some a)) "PrintHTML").run Tryz.prog w = .ok (262, .pointer (some a)) w := by kernel_rfl
theorem m_print_esc (k : Nat) (b : Nat) (w : World) : (method (k + 2) 176 (.pointer (some ⟨b, 0, none⟩)) "PrintHTML").run Tryz.prog w = .ok (262, .pointer (some ⟨b, 0, none⟩)) w := by kernel_rfl
theorem m_print_para (k : Nat) (a : Addr) (w : World) : (method (k + 1) 153 (.pointer (some a)) "PrintHTML").run Tryz.prog w = .ok (282, .pointer (some a)) w := by kernel_rfl

theorem m_print_soft (k : Nat) (a : Addr) (w : World) : (method (k + 1) 193 (.pointer (some a)) "PrintHTML").run Tryz.prog w = .ok (310, .pointer (some a)) w := by kernel_rfl
theorem m_print_auto (k : Nat) (a : Addr) (w : World) : (method (k + 1) 262 (.pointer (some a)) "PrintHTML").run Tryz.prog w = .ok (346, .pointer (some a)) w := by kernel_rfl
theorem m_print_tag (k : Nat) (a : Addr) (w : World) : (method (k + 1) 285 (.pointer (some a)) "PrintHTML").run Tryz.prog w = .ok (352, .pointer (some a)) w := by kernel_rfl

/-- The HTML of a piece. -/
def outPc : Pc → List UInt8
  | .plain s => escN s s.size
  | .esc s => escN s s.size
  | .soft => [10]
  | .auto t u => autoOut t u
  | .tag s => s.data.toList

theorem soft_print (B b : Nat) (v : Value) (l : List UInt8) (w : World) (h : Lib.IsBuffer 72 5 B b (Lib.byteCells l) w) (hB : B ≤ w.heap.size) (hl : l.length ≤ 10000000) :
    Calls Tryz.prog 310 #[v, .pointer (some ⟨b, 0, none⟩)] w fun e w' => e = .returned (.tuple #[]) ∧ Wrote w w' B b (l ++ [10]) := by
  go_enter Tryz.func310, Tryz.ntmps310
  go_wp2_with fail
  refine (write_string B b l ⟨#[10]⟩ w h hB (by omega) (by decide)).mono ?_
  rintro e w' ⟨rfl, hW⟩
  go_wp2_with fail
  go_end0
  exact ⟨rfl, hW⟩

theorem tag_print (B b xb : Nat) (l : List UInt8) (t : ByteArray) (w : World) (h : Lib.IsBuffer 72 5 B b (Lib.byteCells l) w) (hB : B ≤ w.heap.size) (hl : l.length ≤ 10000000) (ht : t.size ≤ 1000000)
    (hX : w.cell? ⟨xb, 0, none⟩ = some (.string t)) :
    Calls Tryz.prog 352 #[.pointer (some ⟨xb, 0, none⟩), .pointer (some ⟨b, 0, none⟩)] w fun e w' => e = .returned (.tuple #[]) ∧ Wrote w w' B b (l ++ t.data.toList) := by
  go_enter Tryz.func352, Tryz.ntmps352
  go_wp2_with fail
  refine (write_string B b l t w h hB (by omega) (by omega)).mono ?_
  rintro e w' ⟨rfl, hW⟩
  go_wp2_with fail
  go_end0
  exact ⟨rfl, hW⟩

theorem Wrote.same {w0 w w' : World} {B b : Nat} {l : List UInt8} (hS : Same w0 w) (hB : w0.heap.size = B) (h : Wrote w w' B b l) : Same w0 w' :=
  Mods.then hS (Below.mods (S := fun k => B ≤ k) h.below (fun k _ hk => hk)) (fun b hb hk => by omega)

theorem take_out {ps : List Pc} {i : Nat} {pc : Pc} (h : ps[i]? = some pc) : (ps.take (i + 1)).flatMap outPc = (ps.take i).flatMap outPc ++ outPc pc := by
  rw [List.take_add_one, List.flatMap_append, h]
  simp

set_option maxHeartbeats 4000000 in
theorem text_print (w0 : World) (B b tb gl n lc : Nat) (x y : Int) (s : ByteArray) (l : List UInt8) (xs : List Value) (ps : List Pc) (w : World) (hS : Same w0 w) (hB : w0.heap.size = B) (h : Lib.IsBuffer 72 5 B b (Lib.byteCells l) w)
    (hT : Blk w0 tb #[.int .i64 x, .int .i64 y, .slice (some ⟨gl, 0, none⟩) n lc, .string s] 110) (hown : w0.ownsRow 0 132 1 (.slice (some ⟨gl, 0, none⟩) n lc) n xs) (hx : PcsAt w0 xs ps) (hn : 0 < n) (hn6 : n ≤ 1000000)
    (hlim : ∀ i, (l ++ (ps.take i).flatMap outPc).length ≤ 10000000) (hsz : ∀ t, Pc.plain t ∈ ps ∨ Pc.esc t ∈ ps ∨ Pc.tag t ∈ ps → t.size ≤ 1000000) (hau : ∀ t u, Pc.auto t u ∈ ps → t.size ≤ 100000 ∧ u.size ≤ 100000) :
    Calls Tryz.prog 249 #[.pointer (some ⟨tb, 0, none⟩), .pointer (some ⟨b, 0, none⟩)] w fun e w' => e = .returned (.tuple #[]) ∧ Wrote w w' B b (l ++ ps.flatMap outPc) := by
  have hTw := hS.blk hT
  have c2 : w.cell? ⟨tb, 2, none⟩ = some (.slice (some ⟨gl, 0, none⟩) n lc) := hTw.cell 2
  have hps : ps.length = n := by have := hx.length; have := hown.1; omega
  obtain ⟨_, _, he, ⟨cur, hcur⟩, _, hc⟩ := ownsRow_form hown hn
  cases he
  go_enter Tryz.func249, Tryz.ntmps249
  go_wp2_with fail
  go_loopg [11] n (fun m v wr => ∃ i : Nat, v = .int .i64 i ∧ m = n - i ∧ i ≤ n ∧ Wrote w wr B b (l ++ (ps.take i).flatMap outPc))
  case atStart => exact ⟨0, rfl, rfl, Nat.zero_le _, by simpa using h, Below.refl _ _, Lib.OthersKept.refl _ _ _⟩
  case round =>
    obtain ⟨i, rfl, rfl, hi, hW⟩ := hrel
    have hSr := Wrote.same hS hB hW
    have HW := Lib.hid hW
    clear hW c2
    by_cases hlt : i < n
    · have w1 : (i : Int) < n := by omega
      have w2 : (0 : Int) ≤ i := by omega
      have w3 : IntKind.i64.wrap ((i : Int) + 1) = (i : Int) + 1 := IntWalk.i64_in _ (by omega)
      have hxl : xs.length = n := by have := hown.1; omega
      obtain ⟨u, pc, hu, hpc, hat⟩ := hx.get i (by omega)
      have hc1 := hc i _ hu
      have hc2 : wr.cell? ⟨gl, i, none⟩ = some u := (World.cell?_of_block (hSr.block gl (World.block_lt_of_cell? _ _ hc1) (fun x => x))).trans hc1
      have m1 := m_print_plain
      have m2 := m_print_esc
      have m3 := m_print_soft
      have m4 := m_print_tag
      have m5 := m_print_auto
      cases pc with
      | plain t =>
        obtain ⟨xb, rfl, hb⟩ := hat
        have hb : Blk w0 xb #[.string t] 137 := hb
        have hbw := hSr.blk hb
        have hc3 : wr.cell? ⟨gl, i, none⟩ = some (.iface 156 (.pointer (some ⟨xb, 0, none⟩))) := hc2
        clear hc2 hc1 hu
        go_wp2_with fail
        refine (plain_print B b xb _ t wr HW.out.buf (by have := HW.out.below.size; have := hS.size; omega) (hlim i) (hsz t (Or.inl (List.mem_of_getElem? hpc))) (hbw.cell 0) (by have := hb.lt; omega)).mono ?_
        rintro e w5 ⟨rfl, hW5⟩
        go_wp2_with fail
        go_roundg (n - (i + 1))
        case measure => omega
        case rel => exact ⟨i + 1, by simp, rfl, by omega, by rw [take_out hpc, ← List.append_assoc]; exact HW.out.trans hW5⟩
      | esc t =>
        obtain ⟨xb, rfl, hb⟩ := hat
        have hb : Blk w0 xb #[.string t] 178 := hb
        have hbw := hSr.blk hb
        have hc3 : wr.cell? ⟨gl, i, none⟩ = some (.iface 176 (.pointer (some ⟨xb, 0, none⟩))) := hc2
        clear hc2 hc1 hu
        go_wp2_with fail
        refine (plain_print B b xb _ t wr HW.out.buf (by have := HW.out.below.size; have := hS.size; omega) (hlim i) (hsz t (Or.inr (Or.inl (List.mem_of_getElem? hpc)))) (hbw.cell 0) (by have := hb.lt; omega)).mono ?_
        rintro e w5 ⟨rfl, hW5⟩
        go_wp2_with fail
        go_roundg (n - (i + 1))
        case measure => omega
        case rel => exact ⟨i + 1, by simp, rfl, by omega, by rw [take_out hpc, ← List.append_assoc]; exact HW.out.trans hW5⟩
      | soft =>
        obtain ⟨xb, rfl, hb⟩ := hat
        have hb : Blk w0 xb #[] 194 := hb
        have hbw := hSr.blk hb
        have hc3 : wr.cell? ⟨gl, i, none⟩ = some (.iface 193 (.pointer (some ⟨xb, 0, none⟩))) := hc2
        clear hc2 hc1 hu
        go_wp2_with fail
        refine (soft_print B b _ _ wr HW.out.buf (by have := HW.out.below.size; have := hS.size; omega) (hlim i)).mono ?_
        rintro e w5 ⟨rfl, hW5⟩
        go_wp2_with fail
        go_roundg (n - (i + 1))
        case measure => omega
        case rel => exact ⟨i + 1, by simp, rfl, by omega, by rw [take_out hpc, ← List.append_assoc]; exact HW.out.trans hW5⟩
      | tag t =>
        obtain ⟨xb, rfl, hb⟩ := hat
        have hb : Blk w0 xb #[.string t] 286 := hb
        have hbw := hSr.blk hb
        have hc3 : wr.cell? ⟨gl, i, none⟩ = some (.iface 285 (.pointer (some ⟨xb, 0, none⟩))) := hc2
        clear hc2 hc1 hu
        go_wp2_with fail
        refine (tag_print B b xb _ t wr HW.out.buf (by have := HW.out.below.size; have := hS.size; omega) (hlim i) (hsz t (Or.inr (Or.inr (List.mem_of_getElem? hpc)))) (hbw.cell 0)).mono ?_
        rintro e w5 ⟨rfl, hW5⟩
        go_wp2_with fail
        go_roundg (n - (i + 1))
        case measure => omega
        case rel => exact ⟨i + 1, by simp, rfl, by omega, by rw [take_out hpc, ← List.append_assoc]; exact HW.out.trans hW5⟩
      | auto t u =>
        obtain ⟨xb, rfl, hb⟩ := hat
        have hb : Blk w0 xb #[.string t, .string u] 264 := hb
        have hbw := hSr.blk hb
        have hc3 : wr.cell? ⟨gl, i, none⟩ = some (.iface 262 (.pointer (some ⟨xb, 0, none⟩))) := hc2
        clear hc2 hc1 hu
        obtain ⟨a1, a2⟩ := hau t u (List.mem_of_getElem? hpc)
        go_wp2_with fail
        refine (auto_print B b xb _ t u wr HW.out.buf (by have := HW.out.below.size; have := hS.size; omega) (hlim i) a1 a2 hbw (by have := hb.lt; omega)).mono ?_
        rintro e w5 ⟨rfl, hW5⟩
        go_wp2_with fail
        go_roundg (n - (i + 1))
        case measure => omega
        case rel => exact ⟨i + 1, by simp, rfl, by omega, by rw [take_out hpc, ← List.append_assoc]; exact HW.out.trans hW5⟩
    · have hin : i = n := by omega
      subst hin
      have w1 : ¬ ((i : Int) < i) := by omega
      go_wp2_with fail
      go_end0
      refine ⟨rfl, ?_⟩
      have := HW.out
      rw [← hps, List.take_length] at this
      exact this
end Go.Proofs.YtdnlfdppjfjncaaGreatDoor

/- Paragraph and Document to HTML. -/
namespace Go.Proofs.YtdnlfdppjfjncaaGreatDoor
open Go Go.RowKit Go.Proofs

def pOpen : List UInt8 := [60, 112, 62]
def pClose : List UInt8 := [60, 47, 112, 62, 10]

set_option maxHeartbeats 4000000 in
theorem para_print (w0 : World) (B b pk tb gl n lc : Nat) (x y x' y' : Int) (s : ByteArray) (l : List UInt8) (xs : List Value) (ps : List Pc) (w : World) (hS : Same w0 w) (hB : w0.heap.size = B) (h : Lib.IsBuffer 72 5 B b (Lib.byteCells l) w)
    (hP : Blk w0 pk #[.int .i64 x', .int .i64 y', .pointer (some ⟨tb, 0, none⟩)] 155)
    (hT : Blk w0 tb #[.int .i64 x, .int .i64 y, .slice (some ⟨gl, 0, none⟩) n lc, .string s] 110) (hown : w0.ownsRow 0 132 1 (.slice (some ⟨gl, 0, none⟩) n lc) n xs) (hx : PcsAt w0 xs ps) (hn : 0 < n) (hn6 : n ≤ 1000000)
    (hlim : ∀ i, ((l ++ pOpen) ++ (ps.take i).flatMap outPc).length ≤ 10000000) (hsz : ∀ t, Pc.plain t ∈ ps ∨ Pc.esc t ∈ ps ∨ Pc.tag t ∈ ps → t.size ≤ 1000000) (hau : ∀ t u, Pc.auto t u ∈ ps → t.size ≤ 100000 ∧ u.size ≤ 100000) :
    Calls Tryz.prog 282 #[.pointer (some ⟨pk, 0, none⟩), .pointer (some ⟨b, 0, none⟩)] w fun e w' => e = .returned (.tuple #[]) ∧ Wrote w w' B b (l ++ pOpen ++ ps.flatMap outPc ++ pClose) := by
  have hl0 := hlim 0
  have hlA := hlim ps.length
  rw [List.take_length] at hlA
  have hl1 : l.length ≤ 100000000 := by simp at hl0; omega
  have hl2 : (l ++ pOpen ++ ps.flatMap outPc).length ≤ 100000000 := by omega
  have hBw : B ≤ w.heap.size := by have := hS.size; omega
  clear hl0 hlA
  go_enter Tryz.func282, Tryz.ntmps282
  go_wp2_with fail
  refine (write_string B b l ⟨#[60, 112, 62]⟩ w h hBw hl1 (by decide)).mono ?_
  rintro e w1 ⟨rfl, h1⟩
  have hS1 := Wrote.same hS hB h1
  have hP1 := hS1.blk hP
  have c2 : w1.cell? ⟨pk, 2, none⟩ = some (.pointer (some ⟨tb, 0, none⟩)) := hP1.cell 2
  go_wp2_with fail
  refine (text_print w0 B b tb gl n lc x y s (l ++ pOpen) xs ps w1 hS1 hB h1.buf hT hown hx hn hn6 hlim hsz hau).mono ?_
  rintro e w2 ⟨rfl, h2⟩
  go_wp2_with fail
  refine (write_string B b _ ⟨#[60, 47, 112, 62, 10]⟩ w2 h2.buf (Nat.le_trans hBw (h1.trans h2).below.size) hl2 (by decide)).mono ?_
  rintro e w3 ⟨rfl, h3⟩
  go_wp2_with fail
  go_end0
  exact ⟨rfl, (h1.trans h2).trans h3⟩

set_option maxHeartbeats 4000000 in
theorem doc_print (w0 : World) (B b rk pk tb ig ic gl n lc : Nat) (x y x' y' x2 y2 : Int) (ml : Option Nat) (s : ByteArray) (l : List UInt8) (xs : List Value) (ps : List Pc) (w : World) (hS : Same w0 w) (hB : w0.heap.size = B) (h : Lib.IsBuffer 72 5 B b (Lib.byteCells l) w)
    (hR : Blk w0 rk #[.int .i64 x2, .int .i64 y2, .slice (some ⟨ig, 0, none⟩) 1 ic, .map ml] 339) (hin : w0.ownsRow 0 68 1 (.slice (some ⟨ig, 0, none⟩) 1 ic) 1 [.iface 153 (.pointer (some ⟨pk, 0, none⟩))])
    (hP : Blk w0 pk #[.int .i64 x', .int .i64 y', .pointer (some ⟨tb, 0, none⟩)] 155)
    (hT : Blk w0 tb #[.int .i64 x, .int .i64 y, .slice (some ⟨gl, 0, none⟩) n lc, .string s] 110) (hown : w0.ownsRow 0 132 1 (.slice (some ⟨gl, 0, none⟩) n lc) n xs) (hx : PcsAt w0 xs ps) (hn : 0 < n) (hn6 : n ≤ 1000000)
    (hlim : ∀ i, ((l ++ pOpen) ++ (ps.take i).flatMap outPc).length ≤ 10000000) (hsz : ∀ t, Pc.plain t ∈ ps ∨ Pc.esc t ∈ ps ∨ Pc.tag t ∈ ps → t.size ≤ 1000000) (hau : ∀ t u, Pc.auto t u ∈ ps → t.size ≤ 100000 ∧ u.size ≤ 100000) :
    Calls Tryz.prog 244 #[.pointer (some ⟨rk, 0, none⟩), .pointer (some ⟨b, 0, none⟩)] w fun e w' => e = .returned (.tuple #[]) ∧ Wrote w w' B b (l ++ pOpen ++ ps.flatMap outPc ++ pClose) := by
  have hRw := hS.blk hR
  have c2 : w.cell? ⟨rk, 2, none⟩ = some (.slice (some ⟨ig, 0, none⟩) 1 ic) := hRw.cell 2
  obtain ⟨_, _, he, _, _, hc⟩ := ownsRow_form (ownsRow_keep hin hS (fun _ _ x => x)) (by omega)
  cases he
  have hc0 := hc 0 _ rfl
  have m1 := m_print_para
  go_enter Tryz.func244, Tryz.ntmps244
  go_wp2_with fail
  go_loopg [11] 1 (fun m v wr => (m = 1 ∧ v = .int .i64 0 ∧ wr = w) ∨ (m = 0 ∧ v = .int .i64 1 ∧ Wrote w wr B b (l ++ pOpen ++ ps.flatMap outPc ++ pClose)))
  case atStart => exact Or.inl ⟨rfl, rfl, rfl⟩
  case round =>
    rcases hrel with ⟨rfl, rfl, rfl⟩ | ⟨rfl, rfl, hW⟩
    · go_wp2_with fail
      refine (para_print w0 B b pk tb gl n lc x y x' y' s l xs ps _ hS hB h hP hT hown hx hn hn6 hlim hsz hau).mono ?_
      rintro e w1 ⟨rfl, h1⟩
      go_wp2_with fail
      go_roundg 0
      case measure => omega
      case rel => exact Or.inr ⟨rfl, rfl, h1⟩
    · go_wp2_with fail
      go_end0
      exact ⟨rfl, hW⟩

theorem m_print_doc (k : Nat) (a : Addr) (w : World) : (method (k + 1) 48 (.pointer (some a)) "PrintHTML").run Tryz.prog w = .ok (244, .pointer (some a)) w := by kernel_rfl
end Go.Proofs.YtdnlfdppjfjncaaGreatDoor

/- ToHTML of a document of one paragraph. -/
namespace Go.Proofs.YtdnlfdppjfjncaaGreatDoor
open Go Go.RowKit Go.Proofs

set_option maxHeartbeats 4000000 in
theorem toHTML_doc (w0 : World) (rk pk tb ig ic gl n lc : Nat) (x y x' y' x2 y2 : Int) (ml : Option Nat) (s : ByteArray) (xs : List Value) (ps : List Pc)
    (hR : Blk w0 rk #[.int .i64 x2, .int .i64 y2, .slice (some ⟨ig, 0, none⟩) 1 ic, .map ml] 339) (hin : w0.ownsRow 0 68 1 (.slice (some ⟨ig, 0, none⟩) 1 ic) 1 [.iface 153 (.pointer (some ⟨pk, 0, none⟩))])
    (hP : Blk w0 pk #[.int .i64 x', .int .i64 y', .pointer (some ⟨tb, 0, none⟩)] 155)
    (hT : Blk w0 tb #[.int .i64 x, .int .i64 y, .slice (some ⟨gl, 0, none⟩) n lc, .string s] 110) (hown : w0.ownsRow 0 132 1 (.slice (some ⟨gl, 0, none⟩) n lc) n xs) (hx : PcsAt w0 xs ps) (hn : 0 < n) (hn6 : n ≤ 1000000)
    (hlim : ∀ i, ((([] : List UInt8) ++ pOpen) ++ (ps.take i).flatMap outPc).length ≤ 10000000) (hsz : ∀ t, Pc.plain t ∈ ps ∨ Pc.esc t ∈ ps ∨ Pc.tag t ∈ ps → t.size ≤ 1000000) (hau : ∀ t u, Pc.auto t u ∈ ps → t.size ≤ 100000 ∧ u.size ≤ 100000) :
    Calls Tryz.prog 37 #[.iface 48 (.pointer (some ⟨rk, 0, none⟩))] w0 fun e w' => e = .returned (.string ⟨(pOpen ++ ps.flatMap outPc ++ pClose).toArray⟩) ∧ Same w0 w' := by
  have m1 := m_print_doc
  go_enter Tryz.func37, Tryz.ntmps37
  go_wp2_with fail
  have hS : Same w0 (w0.alloc (.cells #[.slice none 0 0, .int .i64 0, .int .i8 0] 72)) := (Mods.refl _ w0).alloc _
  have hF := Lib.fresh_isBuffer 72 5 w0
  generalize hW : (w0.alloc _ : World) = W at *
  refine (doc_print w0 w0.heap.size w0.heap.size rk pk tb ig ic gl n lc x y x' y' x2 y2 ml s [] xs ps W hS rfl hF hR hin hP hT hown hx hn hn6 hlim hsz hau).mono ?_
  rintro e w1 ⟨rfl, h1⟩
  have hS1 := Wrote.same hS rfl h1
  go_wp2_with fail
  refine (Tryz.Buffer_String w0.heap.size w0.heap.size _ w1 h1.buf).mono ?_
  rintro e w2 ⟨rfl, k, rfl⟩
  go_wp2_with fail
  go_ret
  exact ⟨rfl, hS1.drewN k⟩

def allOff : Value := .agg #[.bool false, .bool false, .bool false, .bool false, .bool false, .bool false, .bool false, .bool false, .bool false, .bool false]

set_option maxHeartbeats 4000000 in
theorem impl_HTML_of (s : ByteArray) (w : World) (hs9 : s.size ≤ 900000) (all : List Pc)
    (hparse : ∀ (pp : Nat) (w1 : World), Off w1 pp → Calls Tryz.prog 39 #[.pointer (some ⟨pp, 0, none⟩), .string s] w1 fun e w' => ∃ bp rk, e = .returned (.pointer (some ⟨rk, 0, none⟩)) ∧ DocAt w1 w' bp rk pp s all)
    (hlim : ∀ i, ((([] : List UInt8) ++ pOpen) ++ ((all).take i).flatMap outPc).length ≤ 10000000) (hsz : ∀ t, Pc.plain t ∈ all ∨ Pc.esc t ∈ all ∨ Pc.tag t ∈ all → t.size ≤ 1000000) (hau : ∀ t u, Pc.auto t u ∈ all → t.size ≤ 100000 ∧ u.size ≤ 100000) :
    Calls Tryz.prog 17 #[.agg #[.bool false, .bool false, .bool false, .bool false, .bool false, .bool false, .bool false, .bool false, .bool false, .bool false], .string s] w fun e w' => e = .returned (.string ⟨(pOpen ++ (all).flatMap outPc ++ pClose).toArray⟩) ∧ Same w w' := by
  go_enter Tryz.func17, Tryz.ntmps17
  go_wp2_with fail
  generalize hW : (w.alloc _ : World) = W
  have hm : Same w W := by subst hW; exact (Mods.refl _ w).alloc _
  clear hW
  refine (impl_parser W).mono ?_
  rintro e w1 ⟨pp, rfl, hm1, _, hO⟩
  go_wp2_with fail
  refine (hparse pp w1 hO).mono ?_
  rintro e w2 ⟨bp, rk, rfl, hD⟩
  obtain ⟨hm2, _, pk, tb, ig, ic, gl, n, lc, xs, x, y, x2, y2, a1, a2, a3, a4, a5, a6, a7, a8⟩ := hD
  go_wp2_with fail
  refine (toHTML_doc w2 rk pk tb ig ic gl n lc x2 y2 x2 y2 x y none s xs (all) a1 a2 a3 a4 a7 a8 a5 (by omega) hlim hsz hau).mono ?_
  rintro e w3 ⟨rfl, hm3⟩
  go_wp2_with fail
  go_ret
  exact ⟨rfl, ((hm.trans hm1).trans hm2).trans hm3⟩

theorem impl_HTML (s : ByteArray) (w : World) (hs : OneLine s) (all : List Pc) (hg : Plan s 0 0 all)
    (hlim : ∀ i, ((([] : List UInt8) ++ pOpen) ++ ((all).take i).flatMap outPc).length ≤ 10000000) (hsz : ∀ t, Pc.plain t ∈ all ∨ Pc.esc t ∈ all ∨ Pc.tag t ∈ all → t.size ≤ 1000000) (hau : ∀ t u, Pc.auto t u ∉ all) :
    Calls Tryz.prog 17 #[.agg #[.bool false, .bool false, .bool false, .bool false, .bool false, .bool false, .bool false, .bool false, .bool false, .bool false], .string s] w fun e w' => e = .returned (.string ⟨(pOpen ++ (all).flatMap outPc ++ pClose).toArray⟩) ∧ Same w w' :=
  impl_HTML_of s w (by have := hs.small; omega) all (fun pp w1 hO => parser_Parse pp s w1 hs all hg hO) hlim hsz (fun t u h => absurd h (hau t u))
end Go.Proofs.YtdnlfdppjfjncaaGreatDoor

/- The laws' own functions: IsPunct, filled, printable. -/
namespace Go.Proofs.YtdnlfdppjfjncaaGreatDoor
open Go Go.RowKit Go.Proofs

set_option maxHeartbeats 4000000 in
theorem spec_IsPunct (c : UInt8) (w : World) :
    Calls Tryz.prog 41 #[.int .u8 c.toNat] w fun e w' => e = .returned (.bool (punct c)) ∧ w = w' := by
  have hc : punct c = ((33 ≤ c.toNat && c.toNat ≤ 47) || (58 ≤ c.toNat && c.toNat ≤ 64) || (91 ≤ c.toNat && c.toNat ≤ 96) || (123 ≤ c.toNat && c.toNat ≤ 126)) := rfl
  generalize punct c = b at *
  have HC := Lib.hid hc
  clear hc
  go_enter Tryz.func41, Tryz.ntmps41
  go_wp2_with fail
  all_goals
    go_ret
    refine ⟨congrArg (fun b => Ending.returned (.bool b)) ?_, rfl⟩
    rw [HC.out, Bool.eq_iff_iff]
    simp
    omega

/-- Every byte from i on is printable. -/
def prFrom (s : ByteArray) (i : Nat) : Bool := if h : i < s.size then (32 ≤ s[i].toNat && s[i].toNat ≤ 126 && prFrom s (i + 1)) else true
termination_by s.size - i

set_option maxHeartbeats 4000000 in
theorem printable_any (s : ByteArray) (m : Nat) (w : World) (_hm8 : m ≤ 100000000) :
    Calls Tryz.prog 16 #[.string s, .int .i64 m] w fun e w' => e = .returned (.bool (decide (s.size ≤ m) && prFrom s 0)) ∧ w = w' := by
  by_cases hm : s.size ≤ m
  · have w0 : ¬ ((m : Int) < s.size) := by omega
    have hd : decide (s.size ≤ m) = true := by simpa using hm
    rw [hd, Bool.true_and]
    clear hd
    go_enter Tryz.func16, Tryz.ntmps16
    go_wp2_with fail
    go_loopg [12] s.size (fun k v wr => ∃ i : Nat, v = .int .i64 i ∧ k = s.size - i ∧ i ≤ s.size ∧ prFrom s i = prFrom s 0 ∧ w = wr)
    case atStart => exact ⟨0, rfl, rfl, Nat.zero_le _, rfl, rfl⟩
    case round =>
      obtain ⟨i, rfl, rfl, hi, hp, rfl⟩ := hrel
      have HP := Lib.hid hp
      clear hp
      by_cases hlt : i < s.size
      · have w1 : (i : Int) < s.size := by omega
        have w2 : (0 : Int) ≤ i := by omega
        have w3 : IntKind.i64.wrap ((i : Int) + 1) = (i : Int) + 1 := IntWalk.i64_in _ (by omega)
        have hun : prFrom s i = (32 ≤ s[i].toNat && s[i].toNat ≤ 126 && prFrom s (i + 1)) := by rw [prFrom, dif_pos hlt]
        have HU := Lib.hid hun
        clear hun
        by_cases hc : 32 ≤ s[i].toNat ∧ s[i].toNat ≤ 126
        · have c1 : ¬ ((s[i].toNat : Int) < 32) := by omega
          have c2 : ¬ ((126 : Int) < s[i].toNat) := by omega
          have Hc := Lib.hid hc
          clear hc
          go_wp2_with fail
          go_roundg (s.size - (i + 1))
          case measure => omega
          case rel => exact ⟨i + 1, by simp, rfl, by omega, by rw [← HP.out, HU.out]; simp [Hc.out.1, Hc.out.2], rfl⟩
        · have hf : prFrom s 0 = false := by
            rw [← HP.out, HU.out]
            by_cases h1 : 32 ≤ s[i].toNat
            · have : ¬ s[i].toNat ≤ 126 := fun h => hc ⟨h1, h⟩
              simp [this]
            · simp [h1]
          have HF := Lib.hid hf
          by_cases h1 : (s[i].toNat : Int) < 32
          · clear hc hf
            go_wp2_with fail
            go_ret
            exact ⟨by rw [HF.out]; rfl, rfl⟩
          · have h2 : (126 : Int) < s[i].toNat := by omega
            clear hc hf
            go_wp2_with fail
            go_ret
            exact ⟨by rw [HF.out]; rfl, rfl⟩
      · have hin : i = s.size := by omega
        have w1 : ¬ ((i : Int) < s.size) := by omega
        have ht : prFrom s 0 = true := by rw [← HP.out, hin, prFrom, dif_neg (Nat.lt_irrefl _)]
        have HT := Lib.hid ht
        clear ht
        go_wp2_with fail
        go_ret
        exact ⟨by rw [HT.out]; rfl, rfl⟩
  · have w0 : (m : Int) < s.size := by omega
    have hd : decide (s.size ≤ m) = false := by simpa using hm
    rw [hd, Bool.false_and]
    clear hd
    go_enter Tryz.func16, Tryz.ntmps16
    go_wp2_with fail
    go_ret
    exact ⟨rfl, rfl⟩
end Go.Proofs.YtdnlfdppjfjncaaGreatDoor

/- The laws' own functions: filled. -/
namespace Go.Proofs.YtdnlfdppjfjncaaGreatDoor
open Go Go.RowKit Go.Proofs

def fillOk (s : ByteArray) : Bool := if h : 0 < s.size then (!((s[0].toNat : Int) == 32)) && (!(((s[s.size - 1]'(by omega)).toNat : Int) == 32)) else false

set_option maxHeartbeats 4000000 in
theorem filled_any (s : ByteArray) (w : World) (hs : s.size ≤ 100000000) :
    Calls Tryz.prog 20 #[.string s] w fun e w' => e = .returned (.bool (fillOk s)) ∧ w = w' := by
  by_cases h : 0 < s.size
  · have hf : fillOk s = ((!((s[0].toNat : Int) == 32)) && (!(((s[s.size - 1]'(by omega)).toNat : Int) == 32))) := by unfold fillOk; rw [dif_pos h]
    have HF := Lib.hid hf
    clear hf
    have e0 : s.toList.isEmpty = false := bs_ne h
    have e0' : (!s.toList.isEmpty) = true := by rw [e0]; rfl
    have w1 : (0 : Int) < s.size := by omega
    have w2 : IntKind.i64.wrap ((s.size : Int) - 1) = (s.size : Int) - 1 := IntWalk.i64_in _ (by omega)
    have w3 : (0 : Int) ≤ (s.size : Int) - 1 := by omega
    have w4 : ((s.size : Int) - 1).toNat = s.size - 1 := by omega
    have w5 : (s.size : Int) - 1 < s.size := by omega
    go_enter Tryz.func20, Tryz.ntmps20
    go_wp2_with fail
    all_goals
      go_ret
      refine ⟨congrArg (fun b => Ending.returned (.bool b)) ?_, rfl⟩
      rw [HF.out]
      first | rfl | simp_all
  · have hf : fillOk s = false := by unfold fillOk; rw [dif_neg h]
    have hz : s = ⟨#[]⟩ := by
      apply ByteArray.ext_getElem
      · show s.size = 0; omega
      · intro i h1 h2; omega
    subst hz
    have HF := Lib.hid hf
    clear hf
    go_enter Tryz.func20, Tryz.ntmps20
    go_wp2_with fail
    go_ret
    exact ⟨by rw [HF.out]; rfl, rfl⟩
end Go.Proofs.YtdnlfdppjfjncaaGreatDoor
