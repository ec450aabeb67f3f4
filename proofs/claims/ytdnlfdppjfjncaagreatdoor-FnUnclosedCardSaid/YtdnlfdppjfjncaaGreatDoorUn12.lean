/- Some texts of one proof, put into one file: Pairs, Code1, Code2, LawF, Only, LawU. -/
import Derived.Lib.BufferOld
import Derived.Test.YtdnlfdppjfjncaaGreatDoorFn6
import Derived.Test.YtdnlfdppjfjncaaGreatDoorFn8
import Derived.Test.YtdnlfdppjfjncaaGreatDoorUn11
/- zzPairs with any table of bytes and texts: WriteString, Replace; the escapers as such tables. -/
namespace Go.Proofs.YtdnlfdppjfjncaaGreatDoor
open Go Go.RowKit Go.Proofs

/-- A table: a byte, and the text that is put in its place. -/
abbrev Tab := List (UInt8 × ByteArray)
def tabL (t : Tab) : List Value := t.flatMap (fun p => [Value.string ⟨#[p.1]⟩, Value.string p.2])
def tabCells (t : Tab) : Array Value := (tabL t).toArray

theorem tabL_get : ∀ (t : Tab) (j : Nat) (p : UInt8 × ByteArray), t[j]? = some p → (tabL t)[2 * j]? = some (.string ⟨#[p.1]⟩) ∧ (tabL t)[2 * j + 1]? = some (.string p.2)
  | [], j, p, h => by simp at h
  | q :: t, 0, p, h => by
    have : q = p := by simpa using h
    subst this
    exact ⟨rfl, rfl⟩
  | q :: t, j + 1, p, h => by
    have h' : t[j]? = some p := by simpa using h
    obtain ⟨a, b⟩ := tabL_get t j p h'
    have e1 : 2 * (j + 1) = 2 * j + 1 + 1 := by omega
    rw [e1]
    exact ⟨a, b⟩

theorem tab_at {w : World} {K : Nat} {t : Tab} (h : Blk w K (tabCells t) 9) {j : Nat} {p : UInt8 × ByteArray} (hp : t[j]? = some p) :
    w.cell? ⟨K, 2 * j, none⟩ = some (.string ⟨#[p.1]⟩) ∧ w.cell? ⟨K, 2 * j + 1, none⟩ = some (.string p.2) := by
  obtain ⟨a, b⟩ := tabL_get t j p hp
  constructor
  · rw [h.cell]; simpa [tabCells] using a
  · rw [h.cell]; simpa [tabCells] using b

/-- What the table makes of a byte. -/
def lk : Tab → UInt8 → List UInt8
  | [], c => [c]
  | p :: t, c => if c = p.1 then p.2.data.toList else lk t c

theorem lk_hit : ∀ {t : Tab} {j : Nat} {p : UInt8 × ByteArray} {c : UInt8}, t[j]? = some p → (∀ (i : Nat) (q : UInt8 × ByteArray), i < j → t[i]? = some q → c ≠ q.1) → c = p.1 → lk t c = p.2.data.toList
  | [], j, p, c, h, _, _ => by simp at h
  | q :: t, 0, p, c, h, _, hc => by
    have : q = p := by simpa using h
    subst this
    rw [lk, if_pos hc]
  | q :: t, j + 1, p, c, h, hn, hc => by
    have h0 : c ≠ q.1 := hn 0 q (by omega) rfl
    rw [lk, if_neg h0]
    exact lk_hit (by simpa using h) (fun i r hi hr => hn (i + 1) r (by omega) (by simpa using hr)) hc

theorem lk_miss : ∀ {t : Tab} {c : UInt8}, (∀ (i : Nat) (q : UInt8 × ByteArray), t[i]? = some q → c ≠ q.1) → lk t c = [c]
  | [], c, _ => rfl
  | q :: t, c, hn => by
    rw [lk, if_neg (hn 0 q rfl)]
    exact lk_miss (fun i r hr => hn (i + 1) r (by simpa using hr))

/-- Texts of at most six bytes, of a table not too long. -/
structure TabOk (t : Tab) : Prop where
  len : t.length ≤ 1000
  six : ∀ p ∈ t, p.2.size ≤ 6

theorem lk_len : ∀ {t : Tab}, (∀ p ∈ t, p.2.size ≤ 6) → ∀ c, (lk t c).length ≤ 6
  | [], _, c => by simp [lk]
  | q :: t, h, c => by
    rw [lk]
    split
    · have := h q List.mem_cons_self
      have e : q.2.data.toList.length = q.2.size := rfl
      omega
    · exact lk_len (fun p hp => h p (List.mem_cons_of_mem _ hp)) c

def lkN (t : Tab) (s : ByteArray) (i : Nat) : List UInt8 := (s.data.toList.take i).flatMap (lk t)

theorem lkN_all (t : Tab) (s : ByteArray) : lkN t s s.size = s.data.toList.flatMap (lk t) := by
  unfold lkN
  have : s.size = s.data.toList.length := rfl
  rw [this, List.take_length]

theorem lkN_succ (t : Tab) (s : ByteArray) (i : Nat) (h : i < s.size) : lkN t s (i + 1) = lkN t s i ++ lk t s[i] := by
  unfold lkN
  have h' : i < s.data.toList.length := by simpa using h
  rw [List.take_succ_eq_append_getElem h', List.flatMap_append]
  simp
  rfl

theorem lkN_len {t : Tab} (ht : TabOk t) (s : ByteArray) : ∀ i, i ≤ s.size → (lkN t s i).length ≤ 6 * i
  | 0, _ => by simp [lkN]
  | i + 1, h => by
    have h1 := lkN_len ht s i (by omega)
    have h2 := lk_len ht.six (s[i]'(by omega))
    rw [lkN_succ t s i (by omega), List.length_append]
    omega

theorem lkN_bound {t : Tab} (ht : TabOk t) {l : List UInt8} {s : ByteArray} {i : Nat} (hl : l.length ≤ 10000000) (hi : i ≤ s.size) (hs : s.size ≤ 1000000) : (l ++ lkN t s i).length ≤ 100000000 := by
  have := lkN_len ht s i hi
  rw [List.length_append]
  omega

theorem tab_nth {t : Tab} {j : Nat} (h : j < t.length) : ∃ p, t[j]? = some p := ⟨t[j], List.getElem?_eq_getElem h⟩

set_option maxRecDepth 100000 in
set_option maxHeartbeats 8000000 in
theorem pairs_write (t : Tab) (ht : TabOk t) (B b K n : Nat) (hn : n = 2 * t.length) (l : List UInt8) (s : ByteArray) (w : World) (h : Lib.IsBuffer 72 5 B b (Lib.byteCells l) w) (hB : B ≤ w.heap.size) (hl : l.length ≤ 10000000) (hs : s.size ≤ 1000000) (hK : Blk w K (tabCells t) 9) (hKb : K ≠ b) :
    Calls Tryz.prog 266 #[.slice (some ⟨K, 0, none⟩) n n, .pointer (some ⟨b, 0, none⟩), .string s] w fun e w' => e = .returned (.tuple #[]) ∧ Wrote w w' B b (l ++ lkN t s s.size) := by
  have HN := Lib.hid hn
  have htl := ht.len
  have hn9 : n ≤ 2000 := by omega
  clear hn
  go_enter Tryz.func266, Tryz.ntmps266
  go_wp2_with fail
  go_step3
  go_wp2_with fail
  go_step3
  go_wp2_with fail
  go_loopg [6] s.size (fun m v6 wr => ∃ i : Nat, v6 = .int .i64 i ∧ m = s.size - i ∧ i ≤ s.size ∧ Wrote w wr B b (l ++ lkN t s i))
  case atStart => exact ⟨0, rfl, rfl, Nat.zero_le _, by simpa [lkN] using h, Below.refl _ _, Lib.OthersKept.refl _ _ _⟩
  case round =>
    obtain ⟨i, rfl, rfl, hi, hW⟩ := hrel
    have hK1 := blk_others hK hW.others hKb (by decide)
    have HW := Lib.hid hW
    clear hW
    by_cases hlt : i < s.size
    · have w1 : (i : Int) < s.size := by omega
      have w2 : (0 : Int) ≤ i := by omega
      have w3 : IntKind.i64.wrap ((i : Int) + 1) = (i : Int) + 1 := IntWalk.i64_in _ (by omega)
      go_wp2_with fail
      go_loopg [7] t.length (fun m v7 wx => (Wrote w wx B b (l ++ lkN t s i) ∧ Blk wx K (tabCells t) 9) ∧ ∃ j k : Nat, k = 2 * j ∧ v7 = .int .i64 k ∧ m = t.length - j ∧ j ≤ t.length ∧ ∀ (i' : Nat) (q : UInt8 × ByteArray), i' < j → t[i']? = some q → s[i] ≠ q.1)
      case atStart => exact ⟨⟨HW.out, hK1⟩, 0, 0, rfl, rfl, rfl, Nat.zero_le _, fun i' q h _ => absurd h (Nat.not_lt_zero _)⟩
      case round =>
        clear HW hK1
        obtain ⟨⟨hW2, hK2⟩, j, k, hk, rfl, rfl, hj, hno⟩ := hrel
        have HW := Lib.hid hW2
        have HK := Lib.hid hk
        have HNO := Lib.hid hno
        have hkn : k ≤ n := by have := HN.out; omega
        clear hW2 hno
        by_cases hjl : j < t.length
        · obtain ⟨p, hp⟩ := tab_nth hjl
          obtain ⟨k0, k1⟩ := tab_at hK2 hp
          rw [← hk] at k0 k1
          have HP := Lib.hid hp
          have v1 : (k : Int) < n := by have := HN.out; omega
          have v2 : (0 : Int) ≤ k := by omega
          have v3 : IntKind.i64.wrap ((k : Int) + 1) = (k : Int) + 1 := IntWalk.i64_in _ (by omega)
          have v4 : (k : Int) + 1 < n := by have := HN.out; omega
          have v5 : (0 : Int) ≤ (k : Int) + 1 := by omega
          have v6 : ((k : Int) + 1).toNat = k + 1 := by omega
          have v7 : IntKind.i64.wrap ((k : Int) + 2) = (k : Int) + 2 := IntWalk.i64_in _ (by omega)
          have z : (((⟨#[p.1]⟩ : ByteArray)[0]'Nat.zero_lt_one).toNat : Int) = p.1.toNat := rfl
          have hp6 : p.2.size ≤ 6 := ht.six p (List.mem_of_getElem? hp)
          clear hk hp
          by_cases hc : s[i] = p.1
          · have hcb : ((s[i].toNat : Int) == (p.1.toNat : Int)) = true := by rw [hc]; simp
            have hesc : lkN t s (i + 1) = lkN t s i ++ p.2.data.toList := by rw [lkN_succ t s i hlt, lk_hit HP.out HNO.out hc]
            have Hc := Lib.hid hesc
            clear hc hesc
            go_wp2_with fail
            go_quiet (fail)
            go_wp2_with fail
            refine (write_string B b _ p.2 _ (HW.out.drewN nq).buf (Nat.le_trans hB (HW.out.drewN nq).below.size) (lkN_bound ht hl hi hs) (by omega)).mono ?_
            rintro e w5 ⟨rfl, hW5⟩
            go_wp2_with fail
            go_roundg (s.size - (i + 1))
            case measure => omega
            case rel => exact ⟨i + 1, by simp, rfl, by omega, by rw [Hc.out, ← List.append_assoc]; exact (HW.out.drewN nq).trans hW5⟩
          · have hcb : ((s[i].toNat : Int) == (p.1.toNat : Int)) = false := beq_eq_false_iff_ne.2 (fun he => hc (UInt8.toNat_inj.1 (by omega)))
            have Hc := Lib.hid hc
            clear hc
            go_wp2_with fail
            go_quiet (fail)
            go_wp2_with fail
            go_roundg (t.length - (j + 1))
            case measure => omega
            case rel =>
              refine ⟨⟨HW.out.drewN nq, hK2.drewN nq⟩, j + 1, k + 2, by have := HK.out; omega, by simp, rfl, by omega, ?_⟩
              intro i' q hi' hq
              by_cases he : i' = j
              · subst he
                have : q = p := Option.some.inj (hq.symm.trans HP.out)
                rw [this]; exact Hc.out
              · exact HNO.out i' q (by omega) hq
        · have hjn : j = t.length := by omega
          have v1 : ¬ ((k : Int) < n) := by have := HN.out; have := HK.out; omega
          have hesc : lkN t s (i + 1) = lkN t s i ++ [s[i]] := by
            rw [lkN_succ t s i hlt, lk_miss]
            intro i' q hq
            have := (List.getElem?_eq_some_iff.1 hq).1
            exact HNO.out i' q (by omega) hq
          have Hc := Lib.hid hesc
          clear hesc hk
          go_wp2_with fail
          refine (write_byte B b _ s[i] _ HW.out.buf (Nat.le_trans hB HW.out.below.size) (lkN_bound ht hl hi hs)).mono ?_
          rintro e w5 ⟨rfl, hW5⟩
          go_wp2_with fail
          go_roundg (s.size - (i + 1))
          case measure => omega
          case rel => exact ⟨i + 1, by simp, rfl, by omega, by rw [Hc.out, ← List.append_assoc]; exact HW.out.trans hW5⟩
    · have hin : i = s.size := by omega
      have w1 : ¬ ((i : Int) < s.size) := by omega
      subst hin
      go_wp2_with fail
      go_end0
      exact ⟨rfl, HW.out⟩

theorem Wrote.same0 {w w' : World} {B b : Nat} {l : List UInt8} (h : Wrote w w' B b l) (hB : w.heap.size ≤ B) : Same w w' :=
  ⟨h.below.os, h.below.tape, h.below.output, h.below.size, fun k hk _ => h.below.block k (Nat.lt_of_lt_of_le hk hB)⟩

theorem Wrote.from0 {w0 w w' : World} {B b : Nat} {l : List UInt8} (hS : Same w0 w) (hB : w0.heap.size ≤ B) (h : Wrote w w' B b l) : Same w0 w' :=
  Mods.then hS (Below.mods (S := fun k => B ≤ k) h.below (fun k _ hk => hk)) (fun b hb hk => by omega)

set_option maxRecDepth 100000 in
set_option maxHeartbeats 4000000 in
theorem pairs_replace (t : Tab) (ht : TabOk t) (K n : Nat) (hn : n = 2 * t.length) (s : ByteArray) (w : World) (hs : s.size ≤ 1000000) (hK : Blk w K (tabCells t) 9) :
    Calls Tryz.prog 273 #[.slice (some ⟨K, 0, none⟩) n n, .string s] w fun e w' => e = .returned (.string ⟨(lkN t s s.size).toArray⟩) ∧ Same w w' := by
  have hKl := hK.lt
  have HN := Lib.hid hn
  clear hn
  go_enter Tryz.func273, Tryz.ntmps273
  go_wp2_with fail
  have hF := Lib.fresh_isBuffer 72 5 w
  have hS : Same w (w.alloc (.cells #[.slice none 0 0, .int .i64 0, .int .i8 0] 72)) := (Mods.refl _ w).alloc _
  have hK1 := hS.blk hK
  generalize hW : (w.alloc _ : World) = W at *
  refine (pairs_write t ht w.heap.size w.heap.size K n HN.out [] s W hF hS.size (by simp) hs hK1 (by omega)).mono ?_
  rintro e w1 ⟨rfl, h1⟩
  have hS1 := Wrote.from0 hS (Nat.le_refl _) h1
  go_wp2_with fail
  refine (Tryz.Buffer_String w.heap.size w.heap.size _ w1 h1.buf).mono ?_
  rintro e w2 ⟨rfl, k, rfl⟩
  go_wp2_with fail
  go_ret
  exact ⟨rfl, hS1.drewN k⟩

theorem Wrote.keep {w w1 w2 : World} {B b : Nat} {l : List UInt8} (h : Wrote w w1 B b l) (hB : B ≤ w.heap.size) (hS : Same w1 w2) : Wrote w w2 B b l := by
  have hb : Below w1.heap.size w1 w2 := hS.below (Nat.le_refl _) (fun _ _ x => x)
  exact ⟨h.buf.old hb, h.below.trans (hS.below (Nat.le_trans hB h.below.size) (fun _ _ x => x)), h.others.below hb⟩

/-- The tables of the escapers. -/
def escTab : Tab := [(34, ⟨#[38, 113, 117, 111, 116, 59]⟩), (38, ⟨#[38, 97, 109, 112, 59]⟩), (60, ⟨#[38, 108, 116, 59]⟩), (62, ⟨#[38, 103, 116, 59]⟩)]
theorem escTab_cells : tabCells escTab = escCells := rfl
theorem escTab_ok : TabOk escTab := ⟨by decide +kernel, by decide +kernel⟩
theorem escTab_lk (c : UInt8) : lk escTab c = escB c := by
  unfold escTab escB lk lk lk lk lk
  rfl
theorem escTab_lkN (s : ByteArray) (i : Nat) : lkN escTab s i = escN s i := by
  unfold lkN escN
  have : lk escTab = escB := funext escTab_lk
  rw [this]

def hex1 (n : Nat) : UInt8 := if n < 10 then UInt8.ofNat (48 + n) else UInt8.ofNat (55 + n)
def pct (c : Nat) : UInt8 × ByteArray := (UInt8.ofNat c, ⟨#[37, hex1 (c / 16), hex1 (c % 16)]⟩)
def linkTab : Tab := [pct 34, (38, ⟨#[38, 97, 109, 112, 59]⟩)] ++ ([60, 62, 92, 32, 96, 91, 93, 94, 123, 125] ++ [0, 1, 2, 3, 4, 5, 6, 7, 8, 11, 12] ++ (List.range 18).map (· + 14) ++ (List.range 129).map (· + 127)).map pct
set_option maxRecDepth 100000 in
theorem linkTab_ok : TabOk linkTab := ⟨by decide +kernel, by decide +kernel⟩
end Go.Proofs.YtdnlfdppjfjncaaGreatDoor

/- A block of code to HTML. -/
namespace Go.Proofs.YtdnlfdppjfjncaaGreatDoor
open Go Go.RowKit Go.Proofs

def cOpen : List UInt8 := [60, 112, 114, 101, 62, 60, 99, 111, 100, 101]
def cGt : List UInt8 := [62]
def cClose : List UInt8 := [60, 47, 99, 111, 100, 101, 62, 60, 47, 112, 114, 101, 62, 10]
/-- The HTML of the lines of code. -/
def outLs (ls : List ByteArray) : List UInt8 := ls.flatMap (fun l => l.data.toList.flatMap escB ++ [10])

theorem outLs_snoc (ls : List ByteArray) (i : Nat) (l : ByteArray) (h : ls[i]? = some l) : outLs (ls.take (i + 1)) = outLs (ls.take i) ++ (l.data.toList.flatMap escB ++ [10]) := by
  unfold outLs
  rw [List.take_add_one, List.flatMap_append, h]
  simp

set_option maxHeartbeats 8000000 in
theorem code_print (w0 : World) (B b cb gt ct M : Nat) (x y : Int) (ls : List ByteArray) (w : World) (hS : Same w0 w) (hB : w0.heap.size = B) (h : Lib.IsBuffer 72 5 B b (Lib.byteCells []) w) (hM : 0 < M)
    (hC : Blk w0 cb #[.int .i64 x, .int .i64 y, .string (fenceT M), .string ⟨#[]⟩, .slice (some ⟨gt, 0, none⟩) ls.length ct] 369) (hown : w0.ownsRow 0 9 1 (.slice (some ⟨gt, 0, none⟩) ls.length ct) ls.length (ls.map .string))
    (hn : 0 < ls.length) (hn6 : ls.length ≤ 100000) (hl6 : ∀ l ∈ ls, l.size ≤ 100000) (hlim : ∀ i, (outLs (ls.take i)).length ≤ 1000000) :
    Calls Tryz.prog 343 #[.pointer (some ⟨cb, 0, none⟩), .pointer (some ⟨b, 0, none⟩)] w fun e w' => e = .returned (.tuple #[]) ∧ Wrote w w' B b (cOpen ++ cGt ++ outLs ls ++ cClose) := by
  have hsz := fenceT_size M
  have hCw := hS.blk hC
  have c2 : w.cell? ⟨cb, 2, none⟩ = some (.string (fenceT M)) := hCw.cell 2
  have c3 : w.cell? ⟨cb, 3, none⟩ = some (.string ⟨#[]⟩) := hCw.cell 3
  have c4 : w.cell? ⟨cb, 4, none⟩ = some (.slice (some ⟨gt, 0, none⟩) ls.length ct) := hCw.cell 4
  go_enter Tryz.func343, Tryz.ntmps343
  go_wp2_with fail
  refine (Tryz.Buffer_Len B b [] w h).mono ?_
  rintro e w1 ⟨rfl, n1, rfl⟩
  have h1 : Lib.IsBuffer 72 5 B b (Lib.byteCells []) (w.drewN n1) := h.drewN n1
  have hS1 : Same w0 (w.drewN n1) := hS.drewN n1
  have hD : Wrote w (w.drewN n1) B b [] := ⟨h1, ⟨rfl, rfl, rfl, Nat.le_refl _, fun _ _ => rfl⟩, (Lib.OthersKept.refl _ _ w).drewN n1⟩
  generalize (w.drewN n1 : World) = w1 at *
  have hBw : B ≤ w1.heap.size := by have := hS1.size; omega
  have hCw := hS1.blk hC
  clear c2 c3 c4
  have c2 : w1.cell? ⟨cb, 2, none⟩ = some (.string (fenceT M)) := hCw.cell 2
  have c3 : w1.cell? ⟨cb, 3, none⟩ = some (.string ⟨#[]⟩) := hCw.cell 3
  have hne2 : (fenceT M).toList.isEmpty = false := bs_ne (by omega)
  have hne : ¬ ((fenceT M).toList = []) := by
    intro e
    have : (fenceT M).size = 0 := by rw [size_list, ← ByteArray.toList_eq, e]; rfl
    omega
  go_wp2_with fail
  refine (write_string B b [] ⟨#[60, 112, 114, 101, 62, 60, 99, 111, 100, 101]⟩ w1 h1 hBw (by simp) (by decide)).mono ?_
  rintro e w2 ⟨rfl, h2⟩
  have hS2 := Wrote.same hS1 hB h2
  have hC2 := hS2.blk hC
  clear c2 c3
  have c3 : w2.cell? ⟨cb, 3, none⟩ = some (.string ⟨#[]⟩) := hC2.cell 3
  go_wp2_with fail
  refine (write_string B b _ ⟨#[62]⟩ w2 h2.buf (Nat.le_trans hBw h2.below.size) (by decide) (by decide)).mono ?_
  rintro e w3 ⟨rfl, h3⟩
  have h13 := h2.trans h3
  have hS3 := Wrote.same hS1 hB h13
  have hC3 := hS3.blk hC
  clear c3
  have c2 : w3.cell? ⟨cb, 2, none⟩ = some (.string (fenceT M)) := hC3.cell 2
  have c4 : w3.cell? ⟨cb, 4, none⟩ = some (.slice (some ⟨gt, 0, none⟩) ls.length ct) := hC3.cell 4
  have H13 : Hid (Wrote w1 w3 B b (cOpen ++ cGt)) := Lib.hid h13
  obtain ⟨_, _, he, ⟨cur, hcur⟩, _, hc⟩ := ownsRow_form hown hn
  cases he
  have HC := Lib.hid hc
  clear h2 h3 h13 hc
  go_wp2_with fail
  go_loopg [101] ls.length (fun m v wr => ∃ i : Nat, v = .int .i64 i ∧ m = ls.length - i ∧ i ≤ ls.length ∧ Wrote w1 wr B b (cOpen ++ cGt ++ outLs (ls.take i)))
  case atStart => exact ⟨0, rfl, rfl, Nat.zero_le _, by simpa [outLs] using H13.out⟩
  case round =>
    obtain ⟨i, rfl, rfl, hi, hW⟩ := hrel
    have hSr := Wrote.same hS1 hB hW
    have HW := Lib.hid hW
    have hlen := hlim i
    have hl0 : (cOpen ++ cGt ++ outLs (ls.take i)).length ≤ 1000100 := by
      rw [List.length_append]
      have : (cOpen ++ cGt).length = 11 := rfl
      omega
    clear hW c2 c4
    by_cases hlt : i < ls.length
    · have w1' : (i : Int) < ls.length := by omega
      have w2' : (0 : Int) ≤ i := by omega
      have w3' : IntKind.i64.wrap ((i : Int) + 1) = (i : Int) + 1 := IntWalk.i64_in _ (by omega)
      obtain ⟨l, hl⟩ : ∃ l, ls[i]? = some l := ⟨_, List.getElem?_eq_getElem hlt⟩
      have hlm : l ∈ ls := List.mem_of_getElem? hl
      have hl5 := hl6 l hlm
      have cl : wr.cell? ⟨gt, i, none⟩ = some (.string l) := by
        have := HC.out i (.string l) (by rw [List.getElem?_map, hl]; rfl)
        exact (World.cell?_of_block (hSr.block gt (World.block_lt_of_cell? _ _ this) (fun x => x))).trans this
      have HSN := Lib.hid (outLs_snoc ls i l hl)
      have hBr := Nat.le_trans hBw HW.out.below.size
      clear hl
      go_wp2_with fail
      refine (htmlEscaper_at wr wr.heap.size rfl).mono ?_
      rintro e w4 ⟨rfl, rfl⟩
      have hS4 : Same wr (wr.alloc (.cells escCells 9)) := (Mods.refl _ wr).alloc _
      have hK : Blk (wr.alloc (.cells escCells 9)) wr.heap.size (tabCells escTab) 9 := Blk.newAt (w := wr) _ _ rfl
      generalize (wr.alloc (.cells escCells 9) : World) = w4 at *
      go_wp2_with fail
      refine (pairs_replace escTab escTab_ok wr.heap.size 8 rfl l w4 (by omega) hK).mono ?_
      rintro e w5 ⟨rfl, hS5⟩
      have hW5 := (HW.out.keep hBw hS4).keep hBw hS5
      have hes : (⟨(lkN escTab l l.size).toArray⟩ : ByteArray) = strL (l.data.toList.flatMap escB) := by
        rw [escTab_lkN, escN_all]; rfl
      rw [hes]
      have hsz5 : (strL (l.data.toList.flatMap escB)).size ≤ 600000 := by
        rw [strL_size]
        have := escB_len l.data.toList
        have e1 : l.data.toList.length = l.size := rfl
        omega
      have hlist : (strL (l.data.toList.flatMap escB)).data.toList = l.data.toList.flatMap escB := by simp [strL]
      go_wp2_with fail
      refine (write_string B b _ (strL (l.data.toList.flatMap escB)) w5 hW5.buf (Nat.le_trans hBw hW5.below.size) (by omega) (by omega)).mono ?_
      rintro e w6 ⟨rfl, h6⟩
      rw [hlist] at h6
      have hW6 := hW5.trans h6
      go_wp2_with fail
      refine (write_string B b _ ⟨#[10]⟩ w6 hW6.buf (Nat.le_trans hBw hW6.below.size) (by
        rw [List.length_append]
        have := escB_len l.data.toList
        have e1 : l.data.toList.length = l.size := rfl
        omega) (by decide)).mono ?_
      rintro e w7 ⟨rfl, h7⟩
      have hW7 := hW6.trans h7
      go_wp2_with fail
      go_roundg (ls.length - (i + 1))
      case measure => omega
      case rel => exact ⟨i + 1, by simp, rfl, by omega, by rw [HSN.out]; simpa only [List.append_assoc] using hW7⟩
    · have hin : i = ls.length := by omega
      subst hin
      have w1' : ¬ ((ls.length : Int) < ls.length) := by omega
      go_wp2_with fail
      refine (write_string B b _ ⟨#[60, 47, 99, 111, 100, 101, 62, 60, 47, 112, 114, 101, 62, 10]⟩ wr HW.out.buf (Nat.le_trans hBw HW.out.below.size) (by omega) (by decide)).mono ?_
      rintro e w7 ⟨rfl, h7⟩
      have hW7 := HW.out.trans h7
      rw [List.take_length] at hW7
      go_wp2_with fail
      go_end0
      exact ⟨rfl, hD.trans hW7⟩
end Go.Proofs.YtdnlfdppjfjncaaGreatDoor

/- HTML of a fence and its lines. -/
namespace Go.Proofs.YtdnlfdppjfjncaaGreatDoor
open Go Go.RowKit Go.Proofs

theorem m_print_code (k : Nat) (a : Addr) (w : World) : (method (k + 1) 261 (.pointer (some a)) "PrintHTML").run Tryz.prog w = .ok (343, .pointer (some a)) w := by kernel_rfl

def codeHTML (ls : List ByteArray) : List UInt8 := cOpen ++ cGt ++ outLs ls ++ cClose

set_option maxHeartbeats 4000000 in
theorem doc_code (w0 : World) (B b rk cb ig ic gt ct M : Nat) (x y x2 y2 : Int) (ml : Option Nat) (ls : List ByteArray) (w : World) (hS : Same w0 w) (hB : w0.heap.size = B) (h : Lib.IsBuffer 72 5 B b (Lib.byteCells []) w) (hM : 0 < M)
    (hR : Blk w0 rk #[.int .i64 x2, .int .i64 y2, .slice (some ⟨ig, 0, none⟩) 1 ic, .map ml] 339) (hin : w0.ownsRow 0 68 1 (.slice (some ⟨ig, 0, none⟩) 1 ic) 1 [.iface 261 (.pointer (some ⟨cb, 0, none⟩))])
    (hC : Blk w0 cb #[.int .i64 x, .int .i64 y, .string (fenceT M), .string ⟨#[]⟩, .slice (some ⟨gt, 0, none⟩) ls.length ct] 369) (hown : w0.ownsRow 0 9 1 (.slice (some ⟨gt, 0, none⟩) ls.length ct) ls.length (ls.map .string))
    (hn : 0 < ls.length) (hn6 : ls.length ≤ 100000) (hl6 : ∀ l ∈ ls, l.size ≤ 100000) (hlim : ∀ i, (outLs (ls.take i)).length ≤ 1000000) :
    Calls Tryz.prog 244 #[.pointer (some ⟨rk, 0, none⟩), .pointer (some ⟨b, 0, none⟩)] w fun e w' => e = .returned (.tuple #[]) ∧ Wrote w w' B b (codeHTML ls) := by
  have hRw := hS.blk hR
  have c2 : w.cell? ⟨rk, 2, none⟩ = some (.slice (some ⟨ig, 0, none⟩) 1 ic) := hRw.cell 2
  obtain ⟨_, _, he, _, _, hc⟩ := ownsRow_form (ownsRow_keep hin hS (fun _ _ x => x)) (by omega)
  cases he
  have hc0 := hc 0 _ rfl
  have m1 := m_print_code
  have HL := Lib.hid hlim
  clear hlim
  go_enter Tryz.func244, Tryz.ntmps244
  go_wp2_with fail
  go_loopg [11] 1 (fun m v wr => (m = 1 ∧ v = .int .i64 0 ∧ wr = w) ∨ (m = 0 ∧ v = .int .i64 1 ∧ Wrote w wr B b (codeHTML ls)))
  case atStart => exact Or.inl ⟨rfl, rfl, rfl⟩
  case round =>
    rcases hrel with ⟨rfl, rfl, rfl⟩ | ⟨rfl, rfl, hW⟩
    · go_wp2_with fail
      refine (code_print w0 B b cb gt ct M x y ls _ hS hB h hM hC hown hn hn6 hl6 HL.out).mono ?_
      rintro e w1 ⟨rfl, h1⟩
      go_wp2_with fail
      go_roundg 0
      case measure => omega
      case rel => exact Or.inr ⟨rfl, rfl, h1⟩
    · go_wp2_with fail
      go_end0
      exact ⟨rfl, hW⟩

set_option maxHeartbeats 4000000 in
theorem toHTML_code (w0 : World) (rk cb ig ic gt ct M : Nat) (x y x2 y2 : Int) (ml : Option Nat) (ls : List ByteArray) (hM : 0 < M)
    (hR : Blk w0 rk #[.int .i64 x2, .int .i64 y2, .slice (some ⟨ig, 0, none⟩) 1 ic, .map ml] 339) (hin : w0.ownsRow 0 68 1 (.slice (some ⟨ig, 0, none⟩) 1 ic) 1 [.iface 261 (.pointer (some ⟨cb, 0, none⟩))])
    (hC : Blk w0 cb #[.int .i64 x, .int .i64 y, .string (fenceT M), .string ⟨#[]⟩, .slice (some ⟨gt, 0, none⟩) ls.length ct] 369) (hown : w0.ownsRow 0 9 1 (.slice (some ⟨gt, 0, none⟩) ls.length ct) ls.length (ls.map .string))
    (hn : 0 < ls.length) (hn6 : ls.length ≤ 100000) (hl6 : ∀ l ∈ ls, l.size ≤ 100000) (hlim : ∀ i, (outLs (ls.take i)).length ≤ 1000000) :
    Calls Tryz.prog 37 #[.iface 48 (.pointer (some ⟨rk, 0, none⟩))] w0 fun e w' => e = .returned (.string (strL (codeHTML ls))) ∧ Same w0 w' := by
  have m1 := m_print_doc
  go_enter Tryz.func37, Tryz.ntmps37
  go_wp2_with fail
  have hS : Same w0 (w0.alloc (.cells #[.slice none 0 0, .int .i64 0, .int .i8 0] 72)) := (Mods.refl _ w0).alloc _
  have hF := Lib.fresh_isBuffer 72 5 w0
  generalize hW : (w0.alloc _ : World) = W at *
  refine (doc_code w0 w0.heap.size w0.heap.size rk cb ig ic gt ct M x y x2 y2 ml ls W hS rfl hF hM hR hin hC hown hn hn6 hl6 hlim).mono ?_
  rintro e w1 ⟨rfl, h1⟩
  have hS1 := Wrote.same hS rfl h1
  go_wp2_with fail
  refine (Tryz.Buffer_String w0.heap.size w0.heap.size _ w1 h1.buf).mono ?_
  rintro e w2 ⟨rfl, k, rfl⟩
  go_wp2_with fail
  go_ret
  exact ⟨rfl, hS1.drewN k⟩

theorem parser_Parse_fence (pp : Nat) (ls : List ByteArray) (M : Nat) (fin : Bool) (w : World) (hI : Inside ls M) (hE : EntAt w) (hO : Off w pp) (rest : Nat → ByteArray) (hF : Feed rest (fenceLs ls M fin)) :
    Calls Tryz.prog 39 #[.pointer (some ⟨pp, 0, none⟩), .string (rest 0)] w fun e w' => ∃ rk, e = .returned (.pointer (some ⟨rk, 0, none⟩)) ∧ Same w w' ∧
      ∃ u ig ic x y, Blk w' rk #[.int .i64 x, .int .i64 y, .slice (some ⟨ig, 0, none⟩) 1 ic, .map none] 339 ∧ w'.ownsRow 0 68 1 (.slice (some ⟨ig, 0, none⟩) 1 ic) 1 [.iface 261 u] ∧ CodeAt w' u M ls.length (ls.map .string) := by
  go_enter Tryz.func39, Tryz.ntmps39
  go_wp2_with fail
  refine (parse_fence pp ls M fin w hI hE hO rest hF).mono ?_
  rintro e w' ⟨rk, c, rfl, h1, hS, rk2, u, ig, ic, x, y, q, a1, a2, a3, a4, a5, a6, a7⟩
  have e1 := h1.symm.trans (a1.root.trans (by rw [a2]))
  cases e1
  go_wp2_with fail
  go_ret
  exact ⟨rk, rfl, hS, u, ig, ic, x, y, a5, a6, a7⟩

/-- The lines of a text within a fence of M signs, ready for the parser. -/
structure FenceOk (ls : List ByteArray) (M : Nat) (fin : Bool) : Prop where
  ins : Inside ls M
  feed : Feed (fun j => endT ((fenceLs ls M fin).drop j)) (fenceLs ls M fin)
  lim : ∀ i, (outLs (ls.take i)).length ≤ 1000000

set_option maxHeartbeats 4000000 in
theorem impl_HTML_feed (ls : List ByteArray) (M : Nat) (fin : Bool) (w : World) (hE : EntAt w) (hIn : Inside ls M) (hlim : ∀ i, (outLs (ls.take i)).length ≤ 1000000) (rest : Nat → ByteArray) (hF : Feed rest (fenceLs ls M fin)) :
    Calls Tryz.prog 17 #[.agg #[.bool false, .bool false, .bool false, .bool false, .bool false, .bool false, .bool false, .bool false, .bool false, .bool false], .string (rest 0)] w fun e w' => e = .returned (.string (strL (codeHTML ls))) ∧ Same w w' := by
  have hn0 := hIn.ne
  have hcn := hIn.count
  have hbig := hIn.big
  have HF := Lib.hid hF
  have HL := Lib.hid hlim
  clear hF hlim
  go_enter Tryz.func17, Tryz.ntmps17
  go_wp2_with fail
  generalize hW : (w.alloc _ : World) = W
  have hm : Same w W := by subst hW; exact (Mods.refl _ w).alloc _
  clear hW
  refine (impl_parser W).mono ?_
  rintro e w1 ⟨pp, rfl, hm1, _, hO⟩
  have hE1 := (hE.same hm).same hm1
  go_wp2_with fail
  refine (parser_Parse_fence pp ls M fin w1 hIn hE1 hO rest HF.out).mono ?_
  rintro e w2 ⟨rk, rfl, hm2, hD⟩
  obtain ⟨u, ig, ic, x, y, hR, hin, cb, gt, ct, x2, y2, rfl, hC, hown⟩ := hD
  go_wp2_with fail
  refine (toHTML_code w2 rk cb ig ic gt ct M x2 y2 x y none ls (by omega) hR hin hC hown hn0 (by omega) (fun l hl => by have := hIn.size l hl; omega) HL.out).mono ?_
  rintro e w3 ⟨rfl, hm3⟩
  go_wp2_with fail
  go_ret
  exact ⟨rfl, ((hm.trans hm1).trans hm2).trans hm3⟩

theorem impl_HTML_fence (ls : List ByteArray) (M : Nat) (fin : Bool) (w : World) (hE : EntAt w) (hK : FenceOk ls M fin) :
    Calls Tryz.prog 17 #[.agg #[.bool false, .bool false, .bool false, .bool false, .bool false, .bool false, .bool false, .bool false, .bool false, .bool false], .string (endT (fenceLs ls M fin))] w fun e w' => e = .returned (.string (strL (codeHTML ls))) ∧ Same w w' :=
  impl_HTML_feed ls M fin w hE hK.ins hK.lim (fun j => endT ((fenceLs ls M fin).drop j)) hK.feed
end Go.Proofs.YtdnlfdppjfjncaaGreatDoor

/- FnFence's own functions: ascii with line feeds, longest; its texts as lines. -/
namespace Go.Proofs.YtdnlfdppjfjncaaGreatDoor
open Go Go.RowKit Go.Proofs

/-- Every byte from i on is printable or a line feed. -/
def prL (s : ByteArray) (i : Nat) : Bool := if h : i < s.size then ((32 ≤ s[i].toNat && s[i].toNat ≤ 126 || s[i].toNat == 10) && prL s (i + 1)) else true
termination_by s.size - i

theorem prL_get (s : ByteArray) : ∀ (n i : Nat), s.size - i = n → prL s i = true → ∀ j (hj : j < s.size), i ≤ j → Pr s[j] ∨ s[j] = 10
  | 0, i, hn, _, j, hj, hij => by omega
  | n + 1, i, hn, hp, j, hj, hij => by
    have hi : i < s.size := by omega
    rw [prL, dif_pos hi] at hp
    simp only [Bool.and_eq_true, Bool.or_eq_true, decide_eq_true_eq, beq_iff_eq] at hp
    by_cases he : i = j
    · subst he
      rcases hp.1 with h | h
      · exact Or.inl h
      · exact Or.inr (UInt8.toNat_inj.1 h)
    · exact prL_get s n (i + 1) (by omega) hp.2 j hj (by omega)

theorem prL_list {s : ByteArray} (h : prL s 0 = true) : ∀ c ∈ s.data.toList, Pr c ∨ c = 10 := by
  intro c hc
  obtain ⟨i, hi, rfl⟩ := mem_get hc
  exact prL_get s _ 0 rfl h i hi (Nat.zero_le _)

set_option maxHeartbeats 4000000 in
theorem asciiL_any (s : ByteArray) (w : World) (hs : s.size ≤ 2147483647) :
    Calls Tryz.prog 22 #[.string s, .bool true] w fun e w' => e = .returned (.bool (prL s 0)) ∧ w = w' := by
  go_enter Tryz.func22, Tryz.ntmps22
  go_wp2_with fail
  go_loopg [5] s.size (fun k v wr => ∃ i : Nat, v = .int .i64 i ∧ k = s.size - i ∧ i ≤ s.size ∧ prL s i = prL s 0 ∧ w = wr)
  case atStart => exact ⟨0, rfl, rfl, Nat.zero_le _, rfl, rfl⟩
  case round =>
    obtain ⟨i, rfl, rfl, hi, hp, rfl⟩ := hrel
    have HP := Lib.hid hp
    clear hp
    by_cases hlt : i < s.size
    · have w1 : (i : Int) < s.size := by omega
      have w2 : (0 : Int) ≤ i := by omega
      have w3 : IntKind.i64.wrap ((i : Int) + 1) = (i : Int) + 1 := IntWalk.i64_in _ (by omega)
      have hun : prL s i = ((32 ≤ s[i].toNat && s[i].toNat ≤ 126 || s[i].toNat == 10) && prL s (i + 1)) := by rw [prL, dif_pos hlt]
      have HU := Lib.hid hun
      clear hun
      by_cases h10 : s[i].toNat = 10
      · have c1 : (s[i].toNat : Int) < 32 := by omega
        have c2 : ((s[i].toNat : Int) == 10) = true := by rw [beq_iff_eq]; omega
        have H10 := Lib.hid h10
        clear h10
        go_wp2_with fail
        go_roundg (s.size - (i + 1))
        case measure => omega
        case rel => exact ⟨i + 1, by simp, rfl, by omega, by rw [← HP.out, HU.out]; simp [H10.out], rfl⟩
      · have c0 : ((s[i].toNat : Int) == 10) = false := beq_eq_false_iff_ne.2 (by omega)
        by_cases hc : 32 ≤ s[i].toNat ∧ s[i].toNat ≤ 126
        · have c1 : ¬ ((s[i].toNat : Int) < 32) := by omega
          have c2 : ¬ ((126 : Int) < s[i].toNat) := by omega
          have Hc := Lib.hid hc
          clear hc h10
          go_wp2_with fail
          go_roundg (s.size - (i + 1))
          case measure => omega
          case rel => exact ⟨i + 1, by simp, rfl, by omega, by rw [← HP.out, HU.out]; simp [Hc.out.1, Hc.out.2], rfl⟩
        · have hf : prL s 0 = false := by
            rw [← HP.out, HU.out]
            have e1 : (s[i].toNat == 10) = false := beq_eq_false_iff_ne.2 h10
            by_cases h1 : 32 ≤ s[i].toNat
            · have : ¬ s[i].toNat ≤ 126 := fun h => hc ⟨h1, h⟩
              simp [this, e1]
            · simp [h1, e1]
          have HF := Lib.hid hf
          by_cases h1 : (s[i].toNat : Int) < 32
          · clear hc hf h10
            go_wp2_with fail
            go_ret
            exact ⟨by rw [HF.out]; rfl, rfl⟩
          · have h2 : (126 : Int) < s[i].toNat := by omega
            clear hc hf h10
            go_wp2_with fail
            go_ret
            exact ⟨by rw [HF.out]; rfl, rfl⟩
    · have hin : i = s.size := by omega
      have w1 : ¬ ((i : Int) < s.size) := by omega
      have ht : prL s 0 = true := by rw [← HP.out, hin, prL, dif_neg (Nat.lt_irrefl _)]
      have HT := Lib.hid ht
      clear ht
      go_wp2_with fail
      go_ret
      exact ⟨by rw [HT.out]; rfl, rfl⟩

/-- The longest run of c from place i on, if the best so far is b and n of them stand right ahead. -/
theorem lon_at (c : UInt8) (s : ByteArray) (i b n : Nat) (h : i < s.size) : lon c (s.data.toList.drop i) b n = lon c (s.data.toList.drop (i + 1)) (max b (if s[i] = c then n + 1 else 0)) (if s[i] = c then n + 1 else 0) := by
  have h' : i < s.data.toList.length := h
  rw [List.drop_eq_getElem_cons h']
  rfl

set_option maxHeartbeats 4000000 in
theorem longest_any (s : ByteArray) (c : UInt8) (w : World) (hs : s.size ≤ 1000000) :
    Calls Tryz.prog 24 #[.string s, .int .u8 c.toNat] w fun e w' => e = .returned (.int .i64 (lon c s.data.toList 0 0 : Nat)) ∧ w = w' := by
  go_enter Tryz.func24, Tryz.ntmps24
  go_wp2_with fail
  go_loopg [5, 6, 7] s.size (fun k v3 v4 v6 wr => ∃ i b n : Nat, v3 = .int .i64 b ∧ v4 = .int .i64 n ∧ v6 = .int .i64 i ∧ k = s.size - i ∧ i ≤ s.size ∧ n ≤ i ∧ b ≤ i ∧ lon c (s.data.toList.drop i) b n = lon c s.data.toList 0 0 ∧ w = wr)
  case atStart => exact ⟨0, 0, 0, rfl, rfl, rfl, rfl, Nat.zero_le _, Nat.le_refl _, Nat.le_refl _, rfl, rfl⟩
  case round =>
    obtain ⟨i, b, n, rfl, rfl, rfl, rfl, hi, hn, hb, hp, rfl⟩ := hrel
    have HP := Lib.hid hp
    clear hp
    by_cases hlt : i < s.size
    · have w1 : (i : Int) < s.size := by omega
      have w2 : (0 : Int) ≤ i := by omega
      have w3 : IntKind.i64.wrap ((i : Int) + 1) = (i : Int) + 1 := IntWalk.i64_in _ (by omega)
      have w4 : IntKind.i64.wrap ((n : Int) + 1) = (n : Int) + 1 := IntWalk.i64_in _ (by omega)
      have HL := Lib.hid (lon_at c s i b n hlt)
      by_cases hc : s[i] = c
      · have d : ((s[i].toNat : Int) == (c.toNat : Int)) = true := by rw [hc]; simp
        have Hc := Lib.hid hc
        clear hc
        go_wp2_with fail
        go_roundg (s.size - (i + 1))
        case measure => omega
        case rel =>
          refine ⟨i + 1, max b (n + 1), n + 1, by simp; omega, by simp, by simp, rfl, by omega, by omega, by omega, ?_, rfl⟩
          rw [← HP.out, HL.out, if_pos Hc.out]
      · have d : ((s[i].toNat : Int) == (c.toNat : Int)) = false := beq_eq_false_iff_ne.2 (fun he => hc (UInt8.toNat_inj.1 (by omega)))
        have Hc := Lib.hid hc
        clear hc
        go_wp2_with fail
        go_roundg (s.size - (i + 1))
        case measure => omega
        case rel =>
          refine ⟨i + 1, max b 0, 0, by simp, by simp, by simp, rfl, by omega, by omega, by omega, ?_, rfl⟩
          rw [← HP.out, HL.out, if_neg Hc.out]
    · have hin : i = s.size := by omega
      have w1 : ¬ ((i : Int) < s.size) := by omega
      subst hin
      have hl : lon c s.data.toList 0 0 = b := by
        rw [← HP.out]
        have : s.data.toList.drop s.size = [] := by rw [size_list, List.drop_length]
        rw [this]; rfl
      have HB := Lib.hid hl
      clear hl
      go_wp2_with fail
      go_ret
      exact ⟨congrArg (fun n : Nat => Ending.returned (Value.int .i64 n)) HB.out.symm, rfl⟩

/-- The lines of a text. -/
def linesL (s : ByteArray) : List ByteArray := (cut s.data.toList).map strL
theorem linesL_list (s : ByteArray) : (linesL s).flatMap (fun l => l.data.toList ++ [10]) = s.data.toList ++ [10] := by
  rw [← cut_join s.data.toList, linesL, List.flatMap_map]
  congr 1
theorem closed_text (m : Nat) (s : ByteArray) : (endT (fenceLs (linesL s) m true)).data.toList = (List.replicate m 126 ++ [10]) ++ ((s.data.toList ++ [10]) ++ (List.replicate m 126 ++ [10])) := by
  rw [endT_list, fenceLs, if_pos rfl, List.flatMap_cons, List.flatMap_append, linesL_list]
  simp [fenceT, strL]
theorem open_text (m : Nat) (s : ByteArray) : (endT (fenceLs (linesL s) m false)).data.toList = (List.replicate m 126 ++ [10]) ++ (s.data.toList ++ [10]) := by
  rw [endT_list, fenceLs, if_neg (by decide), List.append_nil, List.flatMap_cons, linesL_list]
  simp [fenceT, strL]
theorem out_lines (s : ByteArray) : outLs (linesL s) = s.data.toList.flatMap escB ++ [10] := by
  have h := congrArg (List.flatMap escB) (linesL_list s)
  rw [List.flatMap_append, List.flatMap_assoc] at h
  have e : ∀ l : ByteArray, (l.data.toList ++ [10]).flatMap escB = l.data.toList.flatMap escB ++ [10] := by
    intro l
    rw [List.flatMap_append]
    rfl
  simp only [e] at h
  exact h

theorem linesL_mem {s l : ByteArray} (h : l ∈ linesL s) : ∃ x y, s.data.toList = x ++ l.data.toList ++ y ∧ (10 : UInt8) ∉ l.data.toList := by
  obtain ⟨c, hc, rfl⟩ := List.mem_map.1 h
  obtain ⟨x, y, hxy⟩ := cut_infix _ _ hc
  refine ⟨x, y, ?_, ?_⟩
  · simpa [strL] using hxy
  · simpa [strL] using cut_no10 _ _ hc

theorem outLs_take (ls : List ByteArray) (i : Nat) : (outLs (ls.take i)).length ≤ (outLs ls).length := by
  have h : outLs ls = outLs (ls.take i) ++ outLs (ls.drop i) := by
    unfold outLs
    rw [← List.flatMap_append, List.take_append_drop]
  rw [h, List.length_append]
  omega

theorem fence_ok (s : ByteArray) (M : Nat) (fin : Bool) (hp : prL s 0 = true) (hs : s.size ≤ 2000) (hl : lon 126 s.data.toList 0 0 < M) (h3 : 3 ≤ M) (hM : M ≤ 3000) : FenceOk (linesL s) M fin := by
  have e1 : s.data.toList.length = s.size := rfl
  have hsz : ∀ l ∈ linesL s, l.size ≤ s.size := by
    intro l h
    obtain ⟨x, y, h, _⟩ := linesL_mem h
    have := congrArg List.length h
    have e2 : l.data.toList.length = l.size := rfl
    rw [List.length_append, List.length_append] at this
    omega
  have hby : ∀ l ∈ linesL s, ∀ c ∈ l.data.toList, Pr c := by
    intro l h c hc
    obtain ⟨x, y, h, h10⟩ := linesL_mem h
    rcases prL_list hp c (by rw [h]; simp [hc]) with h | h
    · exact h
    · subst h; exact absurd hc h10
  have hbad : ∀ k : UInt8, (k = 13 ∨ k = 0 ∨ k = 10) → ∀ l ∈ fenceLs (linesL s) M fin, k ∉ l.data.toList := by
    intro k hk l h
    have h1 : ¬ k = 126 := by rcases hk with rfl | rfl | rfl <;> decide
    have hf : k ∉ (fenceT M).data.toList := by
      rw [fenceT_list]
      intro hm
      exact h1 (List.eq_of_mem_replicate hm)
    rcases List.mem_cons.1 h with h | h
    · rw [h]; exact hf
    · rcases List.mem_append.1 h with h | h
      · intro hm
        have h2 := hby l h k hm
        rcases hk with rfl | rfl | rfl <;> exact absurd h2 (by unfold Pr; decide)
      · cases fin with
        | true => rw [List.mem_singleton.1 h]; exact hf
        | false => exact absurd h (by simp)
  refine ⟨⟨?_, ?_, h3, by omega, fun l h => by have := hsz l h; omega, ?_, ?_⟩, ?_, ?_⟩
  · obtain ⟨x, t, h⟩ := cut_cons s.data.toList
    rw [linesL, h]
    simp
  · have := cut_len s.data.toList
    rw [linesL, List.length_map]
    omega
  · intro l h j hj e
    have := hby l h l[j] (get_mem hj)
    rw [e] at this
    exact absurd this (by unfold Pr; decide)
  · intro l h
    obtain ⟨x, y, h, _⟩ := linesL_mem h
    have hr := runC_list l 126 _ (p3 l 0) rfl (p3_le (Nat.zero_le _)).2
    have h2 : s.data.toList = (x ++ l.data.toList.take (p3 l 0)) ++ (List.replicate (runC l 126 (p3 l 0)) 126 ++ (l.data.toList.drop (p3 l 0 + runC l 126 (p3 l 0)) ++ y)) := by
      rw [← List.append_assoc (List.replicate _ _), ← hr, List.append_assoc x, ← List.append_assoc (List.take _ _), List.take_append_drop, ← List.append_assoc]
      exact h
    have := lon_infix 126 (x ++ l.data.toList.take (p3 l 0)) (l.data.toList.drop (p3 l 0 + runC l 126 (p3 l 0)) ++ y) (runC l 126 (p3 l 0))
    rw [← h2] at this
    omega
  · refine endT_feed _ ?_ (hbad 10 (by simp)) (hbad 13 (by simp)) (hbad 0 (by simp))
    rw [size_list]
    cases fin with
    | true => rw [closed_text]; simp only [List.length_append, List.length_replicate, List.length_cons, List.length_nil]; omega
    | false => rw [open_text]; simp only [List.length_append, List.length_replicate, List.length_cons, List.length_nil]; omega
  · intro i
    have h1 := outLs_take (linesL s) i
    rw [out_lines, List.length_append] at h1
    have h2 := escB_len s.data.toList
    have h3 : ([10] : List UInt8).length = 1 := rfl
    omega

theorem repT_fence (n : Nat) : repT ⟨#[126]⟩ n = fenceT n := by
  have h : ∀ n, (List.replicate n [(126 : UInt8)]).flatten = List.replicate n 126 := by
    intro n
    induction n with
    | zero => rfl
    | succ n ih => rw [List.replicate_succ, List.flatten_cons, ih]; rfl
  rw [repT, fenceT]
  exact congrArg strL (h n)

theorem fence_text (M : Nat) (s : ByteArray) : fenceT M ++ (⟨#[10]⟩ : ByteArray) ++ s ++ (⟨#[10]⟩ : ByteArray) ++ fenceT M ++ (⟨#[10]⟩ : ByteArray) = endT (fenceLs (linesL s) M true) := by
  apply ByteArray.ext
  apply Array.toList_inj.1
  rw [closed_text]
  simp [fenceT_list]
theorem unclosed_text (M : Nat) (s : ByteArray) : fenceT M ++ (⟨#[10]⟩ : ByteArray) ++ s ++ (⟨#[10]⟩ : ByteArray) = endT (fenceLs (linesL s) M false) := by
  apply ByteArray.ext
  apply Array.toList_inj.1
  rw [open_text]
  simp [fenceT_list]
theorem fence_want (s : ByteArray) : (⟨#[60, 112, 114, 101, 62, 60, 99, 111, 100, 101, 62]⟩ : ByteArray) ++ strL (s.data.toList.flatMap escB) ++ (⟨#[10, 60, 47, 99, 111, 100, 101, 62, 60, 47, 112, 114, 101, 62, 10]⟩ : ByteArray) = strL (codeHTML (linesL s)) := by
  apply ByteArray.ext
  apply Array.toList_inj.1
  rw [codeHTML, out_lines]
  simp [strL, cOpen, cGt, cClose]

set_option maxHeartbeats 4000000 in
theorem times_big (s : ByteArray) (n : Nat) (w : World) (hs : s.size ≤ 1) (hn : n ≤ 3000) :
    Calls Tryz.prog 23 #[.string s, .int .i64 n] w fun e w' => e = .returned (.string (repT s n)) ∧ w = w' := by
  have h0 : repT s 0 = (⟨#[]⟩ : ByteArray) := rfl
  have H0 := Lib.hid h0
  clear h0
  go_enter Tryz.func23, Tryz.ntmps23
  go_wp2_with fail
  go_loopg [5, 7] n (fun k o i wr => ∃ j : Nat, o = .string (repT s j) ∧ i = .int .i64 j ∧ k = n - j ∧ j ≤ n ∧ w = wr)
  case atStart => exact ⟨0, by rw [H0.out], rfl, rfl, Nat.zero_le _, rfl⟩
  case round =>
    obtain ⟨j, rfl, rfl, rfl, hj, rfl⟩ := hrel
    have hz : (repT s j).size ≤ 100000 := by
      rw [repT_size]
      exact Nat.le_trans (Nat.mul_le_mul hj hs) (by omega)
    by_cases hlt : j < n
    · have w1 : (j : Int) < n := by omega
      have w3 : IntKind.i64.wrap ((j : Int) + 1) = (j : Int) + 1 := IntWalk.i64_in _ (by omega)
      have HS := Lib.hid (repT_succ s j)
      go_wp2_with fail
      go_roundg (n - (j + 1))
      case measure => omega
      case rel => exact ⟨j + 1, by rw [HS.out], rfl, rfl, by omega, rfl⟩
    · have w1 : ¬ ((j : Int) < n) := by omega
      have hjn : j = n := by omega
      subst hjn
      go_wp2_with fail
      go_ret
      exact ⟨rfl, rfl⟩
end Go.Proofs.YtdnlfdppjfjncaaGreatDoor

/- withoutByte, only, filled: the laws' own functions over an alphabet. -/
namespace Go.Proofs.YtdnlfdppjfjncaaGreatDoor
open Go Go.RowKit Go.Proofs

/-- The signs from 32 up to b, without c. -/
def woL (c : UInt8) (b : Nat) : List UInt8 := ((List.range' 32 (b - 32)).map UInt8.ofNat).filter (fun x => !(x == c))
theorem woL_succ (c : UInt8) (b : Nat) (h : 32 ≤ b) : woL c (b + 1) = woL c b ++ (if UInt8.ofNat b == c then [] else [UInt8.ofNat b]) := by
  obtain ⟨n, rfl⟩ : ∃ n, b = 32 + n := ⟨b - 32, by omega⟩
  unfold woL
  rw [show 32 + n + 1 - 32 = n + 1 by omega, show 32 + n - 32 = n by omega, List.range'_concat, List.map_append, List.filter_append]
  congr 1
  rw [Nat.one_mul, List.map_cons, List.map_nil, List.filter_cons, List.filter_nil]
  cases (UInt8.ofNat (32 + n) == c) <;> rfl
theorem woL_len (c : UInt8) (b : Nat) : (woL c b).length ≤ b - 32 := by
  unfold woL
  refine Nat.le_trans (List.length_filter_le _ _) ?_
  simp

set_option maxHeartbeats 4000000 in
theorem withoutByte_any (c : UInt8) (w : World) :
    Calls Tryz.prog 35 #[.int .u8 c.toNat] w fun e w' => e = .returned (.string (strL (woL c 127))) ∧ Same w w' := by
  go_enter Tryz.func35, Tryz.ntmps35
  go_wp2_with fail
  generalize hW : (w.alloc _ : World) = W
  have hm : Below w.heap.size w W := by subst hW; exact (Below.refl _ w).alloc (Nat.le_refl _) _
  have hown : W.ownsRow w.heap.size 5 1 (.slice (some ⟨w.heap.size, 0, none⟩) 0 0) (woL c 32).length (Lib.byteCells (woL c 32)) := by
    subst hW; exact World.ownsRow_lit w #[] 0 (Nat.le_refl _) (Nat.zero_le _) rfl
  clear hW
  go_loopg [3, 4] 95 (fun k v i wr => ∃ j g cap : Nat, i = .int .u8 j ∧ k = 127 - j ∧ 32 ≤ j ∧ j ≤ 127 ∧ v = .slice (some ⟨g, 0, none⟩) (woL c j).length cap ∧ Below w.heap.size w wr ∧ wr.ownsRow w.heap.size 5 1 (.slice (some ⟨g, 0, none⟩) (woL c j).length cap) (woL c j).length (Lib.byteCells (woL c j)))
  case atStart => exact ⟨32, w.heap.size, 0, rfl, rfl, by omega, by omega, rfl, hm, hown⟩
  case round =>
    clear hm hown
    obtain ⟨j, g, cap, rfl, rfl, hj1, hj, rfl, hm, hown⟩ := hrel
    have hl := woL_len c j
    have HM := Lib.hid hm
    have hz := hm.size
    by_cases hlt : j ≤ 126
    · have w1 : (j : Int) ≤ 126 := by omega
      have w3 : IntKind.u8.wrap ((j : Int) + 1) = (j : Int) + 1 := IntWalk.u8_in _ (by omega)
      have hsucc := woL_succ c j hj1
      have HS := Lib.hid hsucc
      have hn1 : (woL c j).length ≤ 800000 := by omega
      have hb : (UInt8.ofNat j).toNat = j := by simp; omega
      have HB := Lib.hid hb
      clear hsucc hm hl
      by_cases hp : UInt8.ofNat j = c
      · have d : ((j : Int) == (c.toNat : Int)) = true := by rw [← hp, hb]; simp
        have he : woL c (j + 1) = woL c j := by rw [HS.out, if_pos (by simpa using hp), List.append_nil]
        have HE := Lib.hid he
        clear he hp hb
        go_wp2_with fail
        go_roundg (127 - (j + 1))
        case measure => omega
        case rel => exact ⟨j + 1, g, cap, rfl, rfl, by omega, by omega, by rw [HE.out], HM.out, by rw [HE.out]; exact hown⟩
      · have d : ((j : Int) == (c.toNat : Int)) = false := beq_eq_false_iff_ne.2 (fun he => hp (UInt8.toNat_inj.1 (by omega)))
        have he : woL c (j + 1) = woL c j ++ [UInt8.ofNat j] := by rw [HS.out, if_neg (by simpa using hp)]
        generalize hL : woL c j = L at *
        clear hL
        have HE := Lib.hid he
        clear he hp hb
        go_wp2_with (at_builtin; refine ap_u8 rfl _ _ rfl w.heap.size ?c0 _ L.length (Lib.byteCells L) rfl (hown.alloc _) wr.heap.size 1 (j : Int) rfl ((Blk.newAt _ _ rfl).cell 0) ?c1 ?_)
        case c0 => simp; omega
        case c1 => omega
        intro g2 cap2 wb hown2 hg2
        have hm2 : Below w.heap.size w wb := grown_below (HM.out.alloc (by omega) _) (hown.alloc _) hg2
        have hcells : Lib.byteCells L ++ [Value.int .u8 (j : Int)] = Lib.byteCells (woL c (j + 1)) := by rw [HE.out]; simp [Lib.byteCells, HB.out]
        have hlen : L.length + 1 = (woL c (j + 1)).length := by rw [HE.out]; simp
        rw [hcells] at hown2
        rw [hlen] at hown2 ⊢
        clear hcells hlen hown hg2
        go_wp2_with fail
        go_roundg (127 - (j + 1))
        case measure => omega
        case rel => exact ⟨j + 1, g2, cap2, rfl, rfl, by omega, by omega, rfl, hm2, hown2⟩
    · have w1 : ¬ ((j : Int) ≤ 126) := by omega
      obtain rfl : j = 127 := by omega
      clear hl hm
      have hcv := run_convert_bytes_back (P := Tryz.prog) wr 35 9 5 ⟨g, 0, none⟩ cap (woL c 127) Tryz.underlying35 Tryz.underlying5 Tryz.underlying9 (fun i hi => by
        have h1 := hown.cellAt i (by omega)
        rw [Addr.add_lit, Nat.zero_add, h1]
        simp [Lib.byteCells, hi])
      go_wp2_with fail
      go_ret
      exact ⟨rfl, Below.mods (S := fun _ => False) HM.out (fun k hk hk2 => absurd hk (by omega))⟩

theorem ixB (s : ByteArray) (c : UInt8) (w : World) : Calls Tryz.prog 36 #[.string s, .int .u8 c.toNat] w fun e w' => e = .returned (.int .i64 (Lib.indexByte s.data.toList c)) ∧ w = w' := by
  refine (Tryz.strings_IndexByte s c.toNat w).mono ?_
  rintro e w' ⟨rfl, rfl⟩
  refine ⟨?_, rfl⟩
  rw [Int.toNat_natCast]
  congr 4
  simp

/-- Every byte from i on is one of the alphabet's. -/
def onF (s A : ByteArray) (i : Nat) : Bool := if h : i < s.size then (!decide (Lib.indexByte A.data.toList s[i] < 0) && onF s A (i + 1)) else true
termination_by s.size - i

theorem onF_get (s A : ByteArray) : ∀ (n i : Nat), s.size - i = n → onF s A i = true → ∀ j (hj : j < s.size), i ≤ j → ¬ Lib.indexByte A.data.toList s[j] < 0
  | 0, i, hn, _, j, hj, hij => by omega
  | n + 1, i, hn, hp, j, hj, hij => by
    have hi : i < s.size := by omega
    rw [onF, dif_pos hi, Bool.and_eq_true] at hp
    by_cases he : i = j
    · subst he
      simpa using hp.1
    · exact onF_get s A n (i + 1) (by omega) hp.2 j hj (by omega)

set_option maxHeartbeats 4000000 in
theorem only_any (s A : ByteArray) (n : Nat) (w : World) (hs : s.size ≤ n) (hn : n ≤ 100000) :
    Calls Tryz.prog 15 #[.string s, .string A, .int .i64 n] w fun e w' => e = .returned (.bool (onF s A 0)) ∧ w = w' := by
  have w0 : ¬ ((n : Int) < s.size) := by omega
  go_enter Tryz.func15, Tryz.ntmps15
  go_wp2_with fail
  go_loopg [7, 14] s.size (fun k u v wr => ∃ i : Nat, (i = 0 → u = undef) ∧ v = .int .i64 i ∧ k = s.size - i ∧ i ≤ s.size ∧ onF s A i = onF s A 0 ∧ w = wr)
  case atStart => exact ⟨0, fun _ => rfl, rfl, rfl, Nat.zero_le _, rfl, rfl⟩
  case round =>
    obtain ⟨i, _, rfl, rfl, hi, hp, rfl⟩ := hrel
    have HP := Lib.hid hp
    clear hp
    by_cases hlt : i < s.size
    · have w1 : (i : Int) < s.size := by omega
      have w2 : (0 : Int) ≤ i := by omega
      have w3 : IntKind.i64.wrap ((i : Int) + 1) = (i : Int) + 1 := IntWalk.i64_in _ (by omega)
      have hun : onF s A i = (!decide (Lib.indexByte A.data.toList s[i] < 0) && onF s A (i + 1)) := by rw [onF, dif_pos hlt]
      have HU := Lib.hid hun
      clear hun
      go_wp2_with fail
      refine (ixB A s[i] w).mono ?_
      rintro e w' ⟨rfl, rfl⟩
      by_cases hc : Lib.indexByte A.data.toList s[i] < 0
      · have hf : onF s A 0 = false := by rw [← HP.out, HU.out]; simp [hc]
        have HF := Lib.hid hf
        clear hf
        go_wp2_with fail
        go_ret
        exact ⟨by rw [HF.out]; rfl, rfl⟩
      · have Hc := Lib.hid hc
        go_wp2_with fail
        go_roundg (s.size - (i + 1))
        case measure => omega
        case rel => exact ⟨i + 1, fun h => absurd h (by omega), by simp, rfl, by omega, by rw [← HP.out, HU.out]; simp [Hc.out], rfl⟩
    · have hin : i = s.size := by omega
      have w1 : ¬ ((i : Int) < s.size) := by omega
      have ht : onF s A 0 = true := by rw [← HP.out, hin, onF, dif_neg (Nat.lt_irrefl _)]
      have HT := Lib.hid ht
      clear ht
      go_wp2_with fail
      go_ret
      exact ⟨by rw [HT.out]; rfl, rfl⟩

set_option maxHeartbeats 4000000 in
theorem only_big (s A : ByteArray) (n : Nat) (w : World) (hs : n < s.size) (_hs2 : s.size ≤ 2147483647) :
    Calls Tryz.prog 15 #[.string s, .string A, .int .i64 n] w fun e w' => e = .returned (.bool false) ∧ w = w' := by
  have w0 : (n : Int) < s.size := by omega
  go_enter Tryz.func15, Tryz.ntmps15
  go_wp2_with fail
  go_ret
  exact ⟨rfl, rfl⟩
end Go.Proofs.YtdnlfdppjfjncaaGreatDoor

/- FnUnclosed answers true. -/
namespace Go.Proofs.YtdnlfdppjfjncaaGreatDoor
open Go Go.RowKit Go.Proofs

/-- A text without its last byte. -/
def chop (b : ByteArray) : ByteArray := strL b.data.toList.dropLast
theorem chop_list (b : ByteArray) : (chop b).data.toList = b.data.toList.dropLast := by simp [chop, strL]
theorem chop_mem {b : ByteArray} {c : UInt8} (h : c ∈ (chop b).data.toList) : c ∈ b.data.toList := by
  rw [chop_list] at h
  exact List.dropLast_subset _ h
theorem chop_size (b : ByteArray) : (chop b).size ≤ b.size := by
  have h1 : (chop b).data.toList.length = (chop b).size := rfl
  have h2 : b.data.toList.length = b.size := rfl
  rw [chop_list, List.length_dropLast] at h1
  omega

theorem chop_feed {L : List ByteArray} (hF : Feed (fun j => endT (L.drop j)) L) (hl : ∀ l, L.getLast? = some l → 0 < l.size) : Feed (fun j => chop (endT (L.drop j))) L where
  done := by show chop (endT (L.drop L.length)) = _; rw [List.drop_length]; rfl
  step := by
    intro j l h
    have hlt : j < L.length := (List.getElem?_eq_some_iff.1 h).1
    have hdrop : L.drop j = l :: L.drop (j + 1) := by
      rw [List.drop_eq_getElem_cons hlt]
      congr 1
      exact Option.some.inj ((List.getElem?_eq_getElem hlt).symm.trans h)
    show (chop (endT (L.drop j))).data.toList = l.data.toList ++ 10 :: (chop (endT (L.drop (j + 1)))).data.toList ∨ (chop (endT (L.drop j)) = l ∧ 0 < l.size ∧ chop (endT (L.drop (j + 1))) = ⟨#[]⟩)
    by_cases he : j + 1 < L.length
    · left
      obtain ⟨y, r, hy⟩ : ∃ y r, L.drop (j + 1) = y :: r := ⟨_, _, List.drop_eq_getElem_cons he⟩
      rw [chop_list, hdrop, endT_cons, chop_list, hy, endT_cons]
      have : ∀ (a b : List UInt8), b ≠ [] → (a ++ 10 :: b).dropLast = a ++ 10 :: b.dropLast := by
        intro a b hb
        rw [List.dropLast_append_of_ne_nil (by simp)]
        congr 1
        cases b with
        | nil => exact absurd rfl hb
        | cons x t => rfl
      exact this _ _ (by simp)
    · right
      have hn : L.drop (j + 1) = [] := List.drop_of_length_le (by omega)
      have hlast : L.getLast? = some l := by
        rw [List.getLast?_eq_getElem?, show L.length - 1 = j by omega]
        exact h
      refine ⟨?_, hl l hlast, by rw [hn]; rfl⟩
      rw [hdrop, hn]
      apply ByteArray.ext
      apply Array.toList_inj.1
      rw [chop_list, endT_cons]
      show (l.data.toList ++ [10]).dropLast = _
      rw [List.dropLast_concat]
  no10 := hF.no10
  no13 := by
    intro j i hi e
    have h1 : (13 : UInt8) ∈ (chop (endT (L.drop j))).data.toList := by rw [← e]; exact get_mem hi
    obtain ⟨k, hk, hk2⟩ := mem_get (chop_mem h1)
    exact hF.no13 j k hk hk2
  no0 := by
    intro i hi e
    have h1 : (0 : UInt8) ∈ (chop (endT (L.drop 0))).data.toList := by rw [← e]; exact get_mem hi
    obtain ⟨k, hk, hk2⟩ := mem_get (chop_mem h1)
    exact hF.no0 k hk hk2
  small := fun j => Nat.le_trans (chop_size _) (hF.small j)
  count := hF.count

theorem cut_last : ∀ s : List UInt8, s ≠ [] → s.getLast? ≠ some 10 → ∀ x, (cut s).getLast? = some x → x ≠ []
  | [], h, _, _, _ => absurd rfl h
  | c :: r, _, hl, x, hx => by
    obtain ⟨y, t, hr⟩ := cut_cons r
    by_cases hc : c = 10
    · subst hc
      rw [cut_lf, hr, List.getLast?_cons_cons, ← hr] at hx
      cases r with
      | nil => exact absurd rfl hl
      | cons d r' =>
        rw [List.getLast?_cons_cons] at hl
        exact cut_last (d :: r') (by simp) hl x hx
    · rw [cut_other hc hr] at hx
      cases t with
      | nil =>
        have := Option.some.inj hx
        rw [← this]
        simp
      | cons z t' =>
        rw [List.getLast?_cons_cons] at hx
        cases r with
        | nil => simp [cut] at hr
        | cons d r' =>
          rw [List.getLast?_cons_cons] at hl
          refine cut_last (d :: r') (by simp) hl x ?_
          rw [hr, List.getLast?_cons_cons]
          exact hx

theorem lon_none (c : UInt8) : ∀ (l : List UInt8) (b n : Nat), (∀ x ∈ l, x ≠ c) → lon c l b n = b
  | [], b, n, _ => rfl
  | x :: r, b, n, h => by
    rw [lon, if_neg (h x (by simp)), lon_none c r _ _ (fun y hy => h y (by simp [hy]))]
    omega

/-- The alphabet: what is printable but the tilde, and the line feed. -/
def tildeA : ByteArray := strL (woL 126 127) ++ ⟨#[10]⟩

theorem tildeA_all : ∀ c : UInt8, ¬ Lib.indexByte tildeA.data.toList c < 0 → (32 ≤ c.toNat ∧ c.toNat ≤ 125) ∨ c.toNat = 10 := by
  have h : ∀ n : Fin 256, ¬ Lib.indexByte tildeA.data.toList (UInt8.ofNat n.1) < 0 → (32 ≤ n.1 ∧ n.1 ≤ 125) ∨ n.1 = 10 := by decide +kernel
  intro c hc
  have := h ⟨c.toNat, c.toNat_lt⟩ (by simpa using hc)
  exact this

theorem prL_of (s : ByteArray) (h : ∀ j (hj : j < s.size), Pr s[j] ∨ s[j].toNat = 10) : ∀ (n i : Nat), s.size - i = n → prL s i = true
  | 0, i, hn => by rw [prL, dif_neg (by omega)]
  | n + 1, i, hn => by
    have hi : i < s.size := by omega
    rw [prL, dif_pos hi, prL_of s h n (i + 1) (by omega), Bool.and_true]
    rcases h i hi with h | h
    · simp [h.1, h.2]
    · simp [h]

theorem un_text1 (s : ByteArray) : (⟨#[126, 126, 126, 10]⟩ : ByteArray) ++ s ++ (⟨#[10]⟩ : ByteArray) = endT (fenceLs (linesL s) 3 false) := by
  apply ByteArray.ext
  apply Array.toList_inj.1
  rw [open_text]
  simp [List.replicate]
theorem un_text2 (s : ByteArray) : (⟨#[126, 126, 126, 10]⟩ : ByteArray) ++ s ++ (⟨#[10, 126, 126, 126, 10]⟩ : ByteArray) = endT (fenceLs (linesL s) 3 true) := by
  apply ByteArray.ext
  apply Array.toList_inj.1
  rw [closed_text]
  simp [List.replicate]
theorem un_text3 (s : ByteArray) : (⟨#[126, 126, 126, 10]⟩ : ByteArray) ++ s = chop (endT ((fenceLs (linesL s) 3 false).drop 0)) := by
  apply ByteArray.ext
  apply Array.toList_inj.1
  rw [chop_list, List.drop_zero, open_text, ← List.append_assoc, List.dropLast_concat]
  simp [List.replicate]

theorem un_feed (s : ByteArray) (hF : Feed (fun j => endT ((fenceLs (linesL s) 3 false).drop j)) (fenceLs (linesL s) 3 false)) (hs : 0 < s.size) (hl : s[s.size - 1] ≠ 10) : Feed (fun j => chop (endT ((fenceLs (linesL s) 3 false).drop j))) (fenceLs (linesL s) 3 false) := by
  refine chop_feed hF ?_
  intro l h
  have e1 : s.data.toList.length = s.size := rfl
  obtain ⟨x, t, hc⟩ := cut_cons s.data.toList
  have h1 : (fenceLs (linesL s) 3 false).getLast? = ((cut s.data.toList).getLast?).map strL := by
    rw [fenceLs, if_neg (by decide), List.append_nil, linesL, hc, List.map_cons, List.getLast?_cons_cons, ← List.map_cons, List.getLast?_map]
  rw [h1] at h
  obtain ⟨z, hz, rfl⟩ := Option.map_eq_some_iff.1 h
  have h2 := cut_last s.data.toList (by intro e; rw [e] at e1; simp at e1; omega) (by
    rw [List.getLast?_eq_getElem?, e1, list_get (by omega)]
    intro e
    exact hl (Option.some.inj e)) z hz
  rw [strL_size]
  cases z with
  | nil => exact absurd rfl h2
  | cons a b => simp

set_option maxRecDepth 100000 in
set_option maxHeartbeats 4000000 in
theorem law_unclosed (s : ByteArray) (w : World) (hE : EntAt w) :
    Calls Tryz.prog 14 #[.string s] w fun e w' => e = .returned (.bool true) ∧ Same w w' := by
  have hAz : (strL (woL 126 127)).size ≤ 95 := by rw [strL_size]; exact woL_len 126 127
  by_cases hbig : 2147483647 < s.size
  · have w0 : (2147483647 : Int) < s.size := by omega
    go_enter Tryz.func14, Tryz.ntmps14
    go_wp2_with fail
    go_ret
    exact ⟨rfl, Mods.refl _ _⟩
  · have w0 : ¬ (2147483647 : Int) < s.size := by omega
    by_cases h500 : 500 < s.size
    · go_enter Tryz.func14, Tryz.ntmps14
      go_wp2_with fail
      refine (withoutByte_any 126 w).mono ?_
      rintro e w1 ⟨rfl, hm1⟩
      go_wp2_with fail
      refine (only_big s _ 500 w1 h500 (by omega)).mono ?_
      rintro e w' ⟨rfl, rfl⟩
      go_wp2_with fail
      go_ret
      exact ⟨rfl, hm1⟩
    · cases hon : onF s tildeA 0 with
      | false =>
        go_enter Tryz.func14, Tryz.ntmps14
        go_wp2_with fail
        refine (withoutByte_any 126 w).mono ?_
        rintro e w1 ⟨rfl, hm1⟩
        go_wp2_with fail
        refine (only_any s tildeA 500 w1 (by omega) (by omega)).mono ?_
        rintro e w' ⟨rfl, rfl⟩
        rw [hon]
        go_wp2_with fail
        go_ret
        exact ⟨rfl, hm1⟩
      | true =>
        cases hf : fillOk s with
        | false =>
          go_enter Tryz.func14, Tryz.ntmps14
          go_wp2_with fail
          refine (withoutByte_any 126 w).mono ?_
          rintro e w1 ⟨rfl, hm1⟩
          go_wp2_with fail
          refine (only_any s tildeA 500 w1 (by omega) (by omega)).mono ?_
          rintro e w' ⟨rfl, rfl⟩
          rw [hon]
          go_wp2_with fail
          refine (filled_any s w1 (by omega)).mono ?_
          rintro e w' ⟨rfl, rfl⟩
          rw [hf]
          go_wp2_with fail
          go_ret
          exact ⟨rfl, hm1⟩
        | true =>
          have hpos : 0 < s.size := by
            by_cases h : 0 < s.size
            · exact h
            · unfold fillOk at hf
              rw [dif_neg h] at hf
              cases hf
          have v2 : IntKind.i64.wrap ((s.size : Int) - 1) = (s.size : Int) - 1 := IntWalk.i64_in _ (by omega)
          have v3 : (0 : Int) ≤ (s.size : Int) - 1 := by omega
          have v4 : ((s.size : Int) - 1).toNat = s.size - 1 := by omega
          have v5 : (s.size : Int) - 1 < s.size := by omega
          by_cases h10 : s[s.size - 1] = 10
          · have d : ((s[s.size - 1].toNat : Int) == 10) = true := by rw [h10]; rfl
            have H10 := Lib.hid h10
            clear h10
            go_enter Tryz.func14, Tryz.ntmps14
            go_wp2_with fail
            refine (withoutByte_any 126 w).mono ?_
            rintro e w1 ⟨rfl, hm1⟩
            go_wp2_with fail
            refine (only_any s tildeA 500 w1 (by omega) (by omega)).mono ?_
            rintro e w' ⟨rfl, rfl⟩
            rw [hon]
            go_wp2_with fail
            refine (filled_any s w1 (by omega)).mono ?_
            rintro e w' ⟨rfl, rfl⟩
            rw [hf]
            go_wp2_with fail
            go_ret
            exact ⟨rfl, hm1⟩
          · have d : ((s[s.size - 1].toNat : Int) == 10) = false := beq_eq_false_iff_ne.2 (fun he => h10 (UInt8.toNat_inj.1 (by show _ = 10; omega)))
            have hby : ∀ j (hj : j < s.size), (32 ≤ s[j].toNat ∧ s[j].toNat ≤ 125) ∨ s[j].toNat = 10 := fun j hj => tildeA_all _ (onF_get s tildeA _ 0 rfl hon j hj (Nat.zero_le _))
            have hpr : prL s 0 = true := prL_of s (fun j hj => (hby j hj).imp (fun h => ⟨h.1, by omega⟩) id) _ 0 rfl
            have hlo : lon 126 s.data.toList 0 0 = 0 := lon_none 126 _ 0 0 (fun x hx e => by
              obtain ⟨i, hi, rfl⟩ := mem_get hx
              have := hby i hi
              rw [e] at this
              revert this
              decide)
            have HK : ∀ fin, FenceOk (linesL s) 3 fin := fun fin => fence_ok s 3 fin hpr (by omega) (by omega) (by omega) (by omega)
            have HF := Lib.hid (un_feed s (HK false).feed hpos h10)
            have HT := Lib.hid (un_text1 s)
            have HU := Lib.hid (un_text2 s)
            have HV := Lib.hid (un_text3 s)
            clear hby hpr hlo h10
            go_enter Tryz.func14, Tryz.ntmps14
            go_wp2_with fail
            refine (withoutByte_any 126 w).mono ?_
            rintro e w1 ⟨rfl, hm1⟩
            go_wp2_with fail
            refine (only_any s tildeA 500 w1 (by omega) (by omega)).mono ?_
            rintro e w' ⟨rfl, rfl⟩
            rw [hon]
            go_wp2_with fail
            refine (filled_any s w1 (by omega)).mono ?_
            rintro e w' ⟨rfl, rfl⟩
            rw [hf]
            go_wp2_with fail
            rw [HT.out]
            refine (impl_HTML_fence (linesL s) 3 false w1 (hE.same hm1) (HK false)).mono ?_
            rintro e w2 ⟨rfl, hm2⟩
            go_wp2_with fail
            rw [HU.out]
            refine (impl_HTML_fence (linesL s) 3 true w2 ((hE.same hm1).same hm2) (HK true)).mono ?_
            rintro e w3 ⟨rfl, hm3⟩
            go_wp2_with fail
            rw [HV.out]
            refine (impl_HTML_feed (linesL s) 3 false w3 (((hE.same hm1).same hm2).same hm3) (HK false).ins (HK false).lim (fun j => chop (endT ((fenceLs (linesL s) 3 false).drop j))) HF.out).mono ?_
            rintro e w4 ⟨rfl, hm4⟩
            have hne : 0 < (strL (codeHTML (linesL s))).size := by rw [strL_size, codeHTML]; simp [cOpen]
            have e0 := bs_ne hne
            go_wp2_with fail
            go_ret
            exact ⟨by simp, ((hm1.trans hm2).trans hm3).trans hm4⟩
end Go.Proofs.YtdnlfdppjfjncaaGreatDoor
