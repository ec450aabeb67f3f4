/- Some texts of one proof, put into one file: LawT, Frame. -/
import Derived.Test.YtdnlfdppjfjncaaGreatDoorRows
import Derived.WalkKit
import Derived.ProofKit
import Derived.OpenShut
import Derived.ShutString
import Derived.LaidMore
import Derived.LaidHandle
import Derived.LaidLaws
import Derived.Test.YtdnlfdppjfjncaaGreatDoorAu1
import Derived.Test.YtdnlfdppjfjncaaGreatDoorOt4
/- FnOpenTag answers true. -/
namespace Go.Proofs.YtdnlfdppjfjncaaGreatDoor
open Go Go.RowKit Go.Proofs

/-- A slice of bytes in memory. -/
def BytesAt (w : World) (v : Value) (l : List UInt8) : Prop :=
  (l = [] ∧ v = .slice none 0 0) ∨ ∃ a cap, v = .slice (some a) l.length cap ∧ ∀ i x, l[i]? = some x → w.cell? (a.add i) = some (.int .u8 x.toNat)
theorem BytesAt.form {w : World} {v : Value} {l : List UInt8} (h : BytesAt w v l) : ∃ a cap, v = .slice a l.length cap := by
  rcases h with ⟨rfl, rfl⟩ | ⟨a, cap, rfl, _⟩
  · exact ⟨none, 0, rfl⟩
  · exact ⟨some a, cap, rfl⟩

def dgT (i : Nat) : ByteArray := strL [UInt8.ofNat (48 + i)]
def keyT (i : Nat) (k : UInt8) : ByteArray := strL (sepL k ++ [107, UInt8.ofNat (48 + i)])
def digA : ByteArray := ⟨#[48, 49, 50, 51, 52, 53, 54, 55, 56, 57, 97, 98, 99, 100, 101, 102]⟩
theorem dig_ext (n : Nat) (h : n < 10) : digA.extract n (n + 1) = strL [UInt8.ofNat (48 + n)] := by
  have : ∀ n : Fin 10, (digA.extract n.1 (n.1 + 1)).data.toList = (strL [UInt8.ofNat (48 + n.1)]).data.toList := by decide +kernel
  apply ByteArray.ext
  apply Array.toList_inj.1
  exact this ⟨n, h⟩

theorem digits_one (n : Nat) (w : World) (h : n < 10) : Calls Tryz.prog 33 #[.int .i64 n, .int .i64 10] w fun e w' => e = .returned (.string (dgT n)) ∧ w = w' := by
  have w1 : (n : Int) < 10 := by omega
  have w2 : (0 : Int) ≤ n := by omega
  have w3 : IntKind.i64.wrap ((n : Int) + 1) = (n : Int) + 1 := IntWalk.i64_in _ (by omega)
  have w4 : ((n : Int) + 1).toNat = n + 1 := by omega
  have w5 : (n : Int) ≤ (n : Int) + 1 := by omega
  have w6 : (n : Int) + 1 ≤ 16 := by omega
  have HD : Hid (digA.extract n (n + 1) = dgT n) := Lib.hid (dig_ext n h)
  go_enter Tryz.func33, Tryz.ntmps33
  go_wp2_with fail
  go_ret
  exact ⟨by rw [← HD.out]; rfl, rfl⟩

theorem attsL_snoc : ∀ (d : Nat) (xs : List UInt8) (k : UInt8), attsL d (xs ++ [k]) = attsL d xs ++ attL (d + xs.length) k
  | d, [], k => by simp [attsL]
  | d, x :: r, k => by
    have := attsL_snoc (d + 1) r k
    simp only [List.cons_append, attsL, this, List.append_assoc, List.length_cons]
    rw [show d + 1 + r.length = d + (r.length + 1) by omega]

def abc3 : ByteArray := ⟨#[97, 98, 99]⟩
theorem abc3_all : ∀ c : UInt8, ¬ Lib.indexByte abc3.data.toList c < 0 → 97 ≤ c.toNat ∧ c.toNat ≤ 99 := by
  have h : ∀ n : Fin 256, ¬ Lib.indexByte abc3.data.toList (UInt8.ofNat n.1) < 0 → 97 ≤ n.1 ∧ n.1 ≤ 99 := by decide +kernel
  intro c hc
  exact h ⟨c.toNat, c.toNat_lt⟩ (by simpa using hc)

/-- The tag so far. -/
def soFar (name : ByteArray) (l : List UInt8) (i : Nat) : ByteArray := strL (60 :: (name.data.toList ++ attsL 0 (l.take i)))
theorem soFar_size (name : ByteArray) (l : List UInt8) (i : Nat) (hl : l.length ≤ 5) : (soFar name l i).size ≤ name.size + 61 := by
  have e : name.data.toList.length = name.size := rfl
  have h := attsL_len 0 (l.take i)
  have h2 : (l.take i).length ≤ 5 := by rw [List.length_take]; omega
  rw [soFar, strL_size]
  simp only [List.length_cons, List.length_append]
  omega
theorem soFar_zero (name : ByteArray) (l : List UInt8) : (⟨#[60]⟩ : ByteArray) ++ name = soFar name l 0 := by
  apply ByteArray.ext
  simp [soFar, strL, attsL]
theorem soFar_succ (name : ByteArray) (l : List UInt8) (i : Nat) (k : UInt8) (h : l[i]? = some k) : soFar name l (i + 1) = soFar name l i ++ strL (attL i k) := by
  have e : l.take (i + 1) = l.take i ++ [k] := by rw [List.take_add_one, h]; rfl
  have hl : (l.take i).length = i := by
    have := (List.getElem?_eq_some_iff.1 h).1
    rw [List.length_take]
    omega
  apply ByteArray.ext
  apply Array.toList_inj.1
  simp [soFar, strL, e, attsL_snoc, hl]

theorem mod3 (k : UInt8) : ((k.toNat : Int).tmod 3 = 0 ∧ sepL k = [32]) ∨ ((k.toNat : Int).tmod 3 = 1 ∧ sepL k = [10]) ∨ ((k.toNat : Int).tmod 3 = 2 ∧ sepL k = [32, 32]) := by
  have h : k.toNat % 3 = 0 ∨ k.toNat % 3 = 1 ∨ k.toNat % 3 = 2 := by omega
  have e : (k.toNat : Int).tmod 3 = ((k.toNat % 3 : Nat) : Int) := rfl
  unfold sepL
  rw [e]
  rcases h with h | h | h <;> rw [h] <;> simp
theorem quo4 (k : UInt8) : ∃ Q : Nat, Q ≤ 255 ∧ (k.toNat : Int).tdiv 3 = Q ∧ (((Q : Int).tmod 4 = 0 ∧ valL k = [61, 34, 118, 32, 62, 32, 119, 34]) ∨ ((Q : Int).tmod 4 = 1 ∧ valL k = [61, 39, 118, 32, 34, 119, 39]) ∨ ((Q : Int).tmod 4 = 2 ∧ valL k = [32, 61, 32, 118]) ∨ ((Q : Int).tmod 4 = 3 ∧ valL k = [])) := by
  refine ⟨k.toNat / 3, ?_, rfl, ?_⟩
  · have := k.toNat_lt
    omega
  have h : k.toNat / 3 % 4 = 0 ∨ k.toNat / 3 % 4 = 1 ∨ k.toNat / 3 % 4 = 2 ∨ k.toNat / 3 % 4 = 3 := by omega
  have e : ((k.toNat / 3 : Nat) : Int).tmod 4 = ((k.toNat / 3 % 4 : Nat) : Int) := rfl
  unfold valL
  rw [e]
  rcases h with h | h | h | h <;> rw [h] <;> simp

theorem soFar_all (name : ByteArray) (l : List UInt8) : (soFar name l l.length).data.toList = 60 :: (name.data.toList ++ attsL 0 l) := by
  simp [soFar, strL]
theorem doc_text (name : ByteArray) (l : List UInt8) (slash : Bool) (V : ByteArray) (hV : endL slash = V.data.toList ++ [62]) :
    (⟨#[120, 32]⟩ : ByteArray) ++ (soFar name l l.length ++ V ++ (⟨#[62]⟩ : ByteArray)) ++ (⟨#[32, 120]⟩ : ByteArray) = docT name l slash := by
  apply ByteArray.ext
  apply Array.toList_inj.1
  rw [docT_list]
  simp [docL, tagL, soFar_all, hV]
theorem want_text (name : ByteArray) (l : List UInt8) (slash : Bool) (V : ByteArray) (hV : endL slash = V.data.toList ++ [62]) :
    (⟨#[60, 112, 62, 120, 32]⟩ : ByteArray) ++ (soFar name l l.length ++ V ++ (⟨#[62]⟩ : ByteArray)) ++ (⟨#[32, 120, 60, 47, 112, 62, 10]⟩ : ByteArray) = wantT name l slash := by
  apply ByteArray.ext
  apply Array.toList_inj.1
  simp [wantT, strL, docL, tagL, soFar_all, hV, pOpen, pClose]
theorem doc_text0 (name : ByteArray) (l : List UInt8) :
    (⟨#[120, 32]⟩ : ByteArray) ++ (soFar name l l.length ++ (⟨#[62]⟩ : ByteArray)) ++ (⟨#[32, 120]⟩ : ByteArray) = docT name l false := by
  apply ByteArray.ext
  apply Array.toList_inj.1
  rw [docT_list]
  simp [docL, tagL, soFar_all, endL]
theorem want_text0 (name : ByteArray) (l : List UInt8) :
    (⟨#[60, 112, 62, 120, 32]⟩ : ByteArray) ++ (soFar name l l.length ++ (⟨#[62]⟩ : ByteArray)) ++ (⟨#[32, 120, 60, 47, 112, 62, 10]⟩ : ByteArray) = wantT name l false := by
  apply ByteArray.ext
  apply Array.toList_inj.1
  simp [wantT, strL, docL, tagL, soFar_all, endL, pOpen, pClose]

theorem step_text {name : ByteArray} {l : List UInt8} {i : Nat} {k : UInt8} (h : l[i]? = some k) (V : ByteArray) (hV : valL k = V.data.toList) :
    soFar name l i ++ keyT i k ++ V = soFar name l (i + 1) := by
  rw [soFar_succ name l i k h]
  apply ByteArray.ext
  apply Array.toList_inj.1
  simp [strL, attL, hV, keyT]
theorem step_text0 {name : ByteArray} {l : List UInt8} {i : Nat} {k : UInt8} (h : l[i]? = some k) (hV : valL k = []) :
    soFar name l i ++ keyT i k = soFar name l (i + 1) := by
  rw [soFar_succ name l i k h]
  apply ByteArray.ext
  apply Array.toList_inj.1
  simp [strL, attL, hV, keyT]

set_option maxRecDepth 100000 in
set_option maxHeartbeats 8000000 in
theorem law_opentag (name : ByteArray) (v : Value) (l : List UInt8) (slash : Bool) (w : World) (hB : BytesAt w v l) :
    Calls Tryz.prog 9 #[.string name, v, .bool slash] w fun e w' => e = .returned (.bool true) ∧ Same w w' := by
  obtain ⟨a, cap, rfl⟩ := hB.form
  have HB := Lib.hid hB
  clear hB
  by_cases hbig : 2147483647 < name.size
  · have w0 : (2147483647 : Int) < name.size := by omega
    go_enter Tryz.func9, Tryz.ntmps9
    go_wp2_with fail
    go_ret
    exact ⟨rfl, Mods.refl _ _⟩
  · have w0 : ¬ (2147483647 : Int) < name.size := by omega
    by_cases hbig2 : 2147483647 < l.length
    · have w1 : (2147483647 : Int) < l.length := by omega
      go_enter Tryz.func9, Tryz.ntmps9
      go_wp2_with fail
      go_ret
      exact ⟨rfl, Mods.refl _ _⟩
    · have w1 : ¬ (2147483647 : Int) < l.length := by omega
      by_cases hn0 : name.size = 0
      · have hne : name = ByteArray.empty := ByteArray.ext (Array.eq_empty_of_size_eq_zero hn0)
        subst hne
        clear w0 hn0 hbig
        go_enter Tryz.func9, Tryz.ntmps9
        go_wp2_with fail
        go_ret
        exact ⟨rfl, Mods.refl _ _⟩
      · have hne : name.toList.isEmpty = false := bs_ne (by omega)
        by_cases h20 : 20 < name.size
        · go_enter Tryz.func9, Tryz.ntmps9
          go_wp2_with fail
          refine (only_big name _ 20 w h20 (by omega)).mono ?_
          rintro e w' ⟨rfl, rfl⟩
          go_wp2_with fail
          go_ret
          exact ⟨rfl, Mods.refl _ _⟩
        · cases hon : onF name abc3 0 with
          | false =>
            go_enter Tryz.func9, Tryz.ntmps9
            go_wp2_with fail
            refine (only_any name abc3 20 w (by omega) (by omega)).mono ?_
            rintro e w' ⟨rfl, rfl⟩
            rw [hon]
            go_wp2_with fail
            go_ret
            exact ⟨rfl, Mods.refl _ _⟩
          | true =>
            by_cases h5 : 5 < l.length
            · have w2 : (5 : Int) < l.length := by omega
              go_enter Tryz.func9, Tryz.ntmps9
              go_wp2_with fail
              refine (only_any name abc3 20 w (by omega) (by omega)).mono ?_
              rintro e w' ⟨rfl, rfl⟩
              rw [hon]
              go_wp2_with fail
              go_ret
              exact ⟨rfl, Mods.refl _ _⟩
            · have w2 : ¬ (5 : Int) < l.length := by omega
              have hN : NameOk name := fun c hc => by
                obtain ⟨j, hj, rfl⟩ := mem_get hc
                exact abc3_all _ (onF_get name abc3 _ 0 rfl hon j hj (Nat.zero_le _))
              have HN := Lib.hid hN
              have HZ := Lib.hid (soFar_zero name l)
              clear hN
              go_enter Tryz.func9, Tryz.ntmps9
              go_wp2_with fail
              refine (only_any name abc3 20 w (by omega) (by omega)).mono ?_
              rintro e w' ⟨rfl, rfl⟩
              rw [hon]
              clear hon hne
              go_wp2_with fail
              go_loopg [7, 8, 9, 34] l.length (fun m v7 v8 v9 v34 wr => ∃ i : Nat, v7 = .string (soFar name l i) ∧ v34 = .int .i64 i ∧ m = l.length - i ∧ i ≤ l.length ∧ Same w wr)
              case atStart => exact ⟨0, by rw [← HZ.out], rfl, rfl, Nat.zero_le _, Mods.refl _ _⟩
              case round =>
                obtain ⟨i, rfl, rfl, rfl, hi, hS⟩ := hrel
                have hsz := soFar_size name l i (by omega)
                by_cases hlt : i < l.length
                · obtain ⟨k, hk⟩ : ∃ k, l[i]? = some k := ⟨_, List.getElem?_eq_getElem hlt⟩
                  have hBr := HB.out
                  rcases hBr with ⟨hnil, _⟩ | ⟨b, cap', hv, hc⟩
                  · subst hnil
                    simp at hk
                  · cases hv
                    have hc1 := hc i k hk
                    have hc2 : wr.cell? (b.add i) = some (.int .u8 k.toNat) := (World.cell?_of_block (hS.block (b.add i).block (World.block_lt_of_cell? _ _ hc1) (fun x => x))).trans hc1
                    have v1 : (i : Int) < l.length := by omega
                    have v2 : (0 : Int) ≤ i := by omega
                    have v3 : IntKind.i64.wrap ((i : Int) + 1) = (i : Int) + 1 := IntWalk.i64_in _ (by omega)
                    have HS := Lib.hid hS
                    clear hS hc hc1
                    go_upto_region 9 with (fail)
                    have hd1 : (dgT i).size ≤ 1 := by rw [dgT, strL_size]; exact Nat.le_refl _
                    have hi10 : i < 10 := by omega
                    have hk9 : k.toNat ≤ 255 := by have := k.toNat_lt; omega
                    have wk : IntKind.i64.wrap (k.toNat : Int) = (k.toNat : Int) := IntWalk.i64_in _ (by omega)
                    have hse : (keyT i k).size ≤ 4 := by
                      rw [keyT, strL_size]
                      rcases sepL_cases k with e | e | e <;> rw [e] <;> simp
                    have HK := Lib.hid hk
                    clear hk
                    go_cut [7] (fun s7 wx => s7 = .string (soFar name l i ++ keyT i k) ∧ Same w wx)
                    case first =>
                      rcases mod3 k with ⟨m1, m2⟩ | ⟨m1, m2⟩ | ⟨m1, m2⟩
                      all_goals
                        have M2 := Lib.hid m2
                        clear m2
                        go_region_with ((go_at_call 33; refine (digits_one i _ hi10).mono ?_; rintro e' wC ⟨rfl, rfl⟩))
                        all_goals
                          go_wp2_with fail
                          go_meet
                          case rel => exact ⟨congrArg (fun x => Value.string (soFar name l i ++ x)) (ByteArray.ext (by rw [keyT, M2.out]; simp [strL, dgT])), by repeat (first | exact HS.out | apply Mods.drew | apply Mods.alloc)⟩
                    case rest =>
                      obtain ⟨rfl, hS2⟩ := hcut
                      have HS2 := Lib.hid hS2
                      clear hS2
                      obtain ⟨Q, hQ, q1, hQQ⟩ := quo4 k
                      have wQ : IntKind.i64.wrap (Q : Int) = (Q : Int) := IntWalk.i64_in _ (by omega)
                      rcases hQQ with ⟨q2, q3⟩ | ⟨q2, q3⟩ | ⟨q2, q3⟩ | ⟨q2, q3⟩
                      · have HT := Lib.hid (step_text (name := name) HK.out ⟨#[61, 34, 118, 32, 62, 32, 119, 34]⟩ q3)
                        clear q3
                        go_wp2_with fail
                        go_roundg (l.length - (i + 1))
                        case measure => omega
                        case rel => exact ⟨i + 1, by rw [← HT.out], by simp, rfl, by omega, HS2.out⟩
                      · have HT := Lib.hid (step_text (name := name) HK.out ⟨#[61, 39, 118, 32, 34, 119, 39]⟩ q3)
                        clear q3
                        go_wp2_with fail
                        go_roundg (l.length - (i + 1))
                        case measure => omega
                        case rel => exact ⟨i + 1, by rw [← HT.out], by simp, rfl, by omega, HS2.out⟩
                      · have HT := Lib.hid (step_text (name := name) HK.out ⟨#[32, 61, 32, 118]⟩ q3)
                        clear q3
                        go_wp2_with fail
                        go_roundg (l.length - (i + 1))
                        case measure => omega
                        case rel => exact ⟨i + 1, by rw [← HT.out], by simp, rfl, by omega, HS2.out⟩
                      · have HT := Lib.hid (step_text0 (name := name) HK.out q3)
                        clear q3
                        go_wp2_with fail
                        go_roundg (l.length - (i + 1))
                        case measure => omega
                        case rel => exact ⟨i + 1, by rw [← HT.out], by simp, rfl, by omega, HS2.out⟩
                · have hil : i = l.length := by omega
                  subst hil
                  have v1 : ¬ (l.length : Int) < l.length := by omega
                  have HS := Lib.hid hS
                  clear hS
                  cases slash with
                  | true =>
                    have HT := Lib.hid (doc_text name l true ⟨#[32, 47]⟩ rfl)
                    have HWT := Lib.hid (want_text name l true ⟨#[32, 47]⟩ rfl)
                    go_wp2_with fail
                    rw [HT.out]
                    refine (html_tag name l true wr HN.out (by omega) (by omega) (by omega)).mono ?_
                    rintro e w2 ⟨rfl, hm⟩
                    go_wp2_with fail
                    go_ret
                    refine ⟨congrArg (fun b => Ending.returned (.bool b)) ?_, HS.out.trans hm⟩
                    rw [HWT.out]
                    simp
                  | false =>
                    have HT := Lib.hid (doc_text0 name l)
                    have HWT := Lib.hid (want_text0 name l)
                    go_wp2_with fail
                    rw [HT.out]
                    refine (html_tag name l false wr HN.out (by omega) (by omega) (by omega)).mono ?_
                    rintro e w2 ⟨rfl, hm⟩
                    go_wp2_with fail
                    go_ret
                    refine ⟨congrArg (fun b => Ending.returned (.bool b)) ?_, HS.out.trans hm⟩
                    rw [HWT.out]
                    simp
end Go.Proofs.YtdnlfdppjfjncaaGreatDoor

/- A start that meets the rows' condition on the listed variables: the heap that the start-up leaves, the pinned table laid. -/
namespace Go.Proofs.YtdnlfdppjfjncaaGreatDoor
open Go Go.ChangeShapes Go.WideShapes Go.ChangeAt Go.RowKit

theorem knob : ownKnob Tryz.prog.godebug = none := by kernel_rfl

def laid8 : List (String × DataW Unit) := Rows.fnEscapedRow.laid

/-- The start. -/
noncomputable def laidW (os : Os) : World :=
  let w0 := World.doorLaid Tryz.prog 4000 os
  { w0 with heap := w0.heap.modify 2 fun
      | .cells _ t frozen => .cells (Pinned.utf8FirstZ.map fun z => Value.int .u8 (z : Nat)).toArray t frozen
      | o => o }
theorem laidW_met (os : Os) (args : Array Value) : laidMetH Tryz.prog laid8 ((laidW os).forCall (fun _ _ => 0) ⟨#[], args, []⟩).memory :=
  laidMetH_of_parts3 (fuel := 8) (laidMet_of_run' 8 (by kernel_rfl) (by kernel_rfl)) (by kernel_rfl) (by kernel_rfl)

theorem Mods.kept {S : Nat → Prop} {w w' : World} (h : Mods S w w') (hS : ∀ k, ¬ S k) (may : MemPlace → Prop) : w.keptBut w' may := by
  refine ⟨h.os, h.output, fun i hi => ?_⟩
  rw [h.block i hi (hS i)]
  cases w.heap[i]? with
  | none => rfl
  | some o =>
    cases o with
    | cells c t fr => exact ⟨rfl, rfl, rfl, fun _ _ => rfl⟩
    | map es ck => exact Or.inr ⟨rfl, rfl⟩
    | _ => rfl
end Go.Proofs.YtdnlfdppjfjncaaGreatDoor
