/- Some texts of one proof, put into one file: Em16, Em17, Em18, InA, InB, InC. -/
import Derived.Test.YtmmopoofheblbaaGreatDoorIm12
/- emph: the next value of the list is looked at. -/
namespace Go.Proofs.YtmmopoofheblbaaGreatDoor.T
open Go Go.RowKit Go.Proofs

theorem c1_sq : c1 = .seq (fst c1) (.seq (fst (snd c1)) (.seq (fst (snd (snd c1))) (.seq c13 c49))) := rfl

theorem as_open_any (T X : Nat) (v : Value) (w : World) (h : T ≠ 228) :
    (Instr.typeAssert (.iface T v) X 228 true).run Tryz.prog w = .ok (.tuple #[.pointer none, .bool false]) w :=
  as_ptr_no T _ 231 (by kernel_rfl) (fun _ => by kernel_rfl) X v w h
theorem as_mark_any (T X : Nat) (v : Value) (w : World) (h : T ≠ 266) :
    (Instr.typeAssert (.iface T v) X 266 true).run Tryz.prog w = .ok (.tuple #[.pointer none, .bool false]) w :=
  as_ptr_no T _ 268 (by kernel_rfl) (fun _ => by kernel_rfl) X v w h
theorem as_open_yes (X : Nat) (v : Value) (w : World) : (Instr.typeAssert (.iface 228 v) X 228 true).run Tryz.prog w = .ok (.tuple #[v, .bool true]) w := by kernel_rfl

set_option maxRecDepth 100000 in
set_option maxHeartbeats 8000000 in
theorem r_fin (q d0 : Value) (sg so sc n D S i T : Nat) (u : Value) (w : World) (hT1 : T ≠ 228) (hT2 : T ≠ 266) (s0 : w.cell? ⟨sg, so + i, none⟩ = some (.iface T u))
    (inp : Bool) (xs ys : List Value) (da : Option Addr) (dc : Nat) (hD : Blk w D #[.slice da ys.length dc] 84) (hL : Lst w inp sg so sc n xs (i + 1) (.slice da ys.length dc) ys) (hyi : ys.length < i + 1) (hin : i + 1 ≤ n) (hn : n ≤ 1000000) (cap : Nat)
    (R : Act → World → Prop)
    (hnext : ∀ a' w1 w2 g dc', FrM q d0 (.slice (some ⟨sg, so, none⟩) n cap) D S i a' → Same w w1 → Lst w2 inp sg so sc n xs (i + 1) (.slice (some ⟨g, 0, none⟩) (ys.length + 1) dc') (ys ++ [.iface T u]) →
      Mods (fun k => (Value.slice da ys.length dc).ownBlock = some k) w1 w2 → ((Value.slice da ys.length dc).ownBlock = some g ∨ g = w1.heap.size) → R a' (w2.setCell ⟨D, 0, none⟩ (.slice (some ⟨g, 0, none⟩) (ys.length + 1) dc')))
    (a : Act) (ha : FrM q d0 (.slice (some ⟨sg, so, none⟩) n cap) D S i a) : Code.wp Tryz.prog c1 (fun e a' w' => e = .exit 1 ∧ R a' w') a w := by
  have HN := Lib.hid hnext
  have q1 := fun X v w => as_open_any T X v w hT1
  have q2 := fun X v w => as_mark_any T X v w hT2
  have k0 : w.cell? ⟨D, 0, none⟩ = some (.slice da ys.length dc) := hD.cell 0
  have k1 := hD.fr 0
  have k2 := hD.lt
  have c1 : (0 : Int) ≤ i := by omega
  have c2 : (i : Int) < n := by omega
  have hSd : ∀ o, Same w ((w.alloc o).drew) := fun o => ((Mods.refl (fun _ => False) w).alloc o).drew
  clear hnext hT1 hT2
  obtain ⟨v, rfl⟩ := ha
  conv => arg 2; whnf
  go_wp2_with fail
  first | go_region_law (refine st_dst' rfl (.tmp 55) (.tmp 60) rfl (hL.same (hSd _)) hyi hin hn T u w.heap.size 1 rfl rfl ((Blk.drew (Blk.newAt _ _ rfl)).cell 0) ?_; intro g dc' w2 hL2 hm2 hloc; have hD2 := (Same.blk (hSd (.cells #[.iface T u] 157)) hD).keep hm2 (fun e => own_ne hL.row hD (by decide) e); have k0' := hD2.cell 0; have k1' := hD2.fr 0; have k2' := hD2.lt) | fail
  all_goals
    go_wp2_with fail
    exact HN.out _ _ _ g dc' ⟨(fun d => cond (Nat.ble 11 d && Nat.ble d 61) (cond (Nat.ble d 42) (cond (Nat.ble d 26) (List.getD [_, _, _, _, _, _, _, _, _, _, _, undef, _, _, _, _] (d - 11) undef) (List.getD [_, _, _, _, _, _, _, _, _, _, _, _, _, _, _, _] (d - 27) undef)) (cond (Nat.ble d 58) (List.getD [_, _, _, _, _, _, _, _, _, _, _, _, _, _, _, _] (d - 43) undef) (List.getD [_, _, _] (d - 59) undef))) (v d)), rfl⟩ (hSd _) hL2 hm2 (hloc.imp (fun e => e) (fun e => e.trans (by simp)))

set_option maxRecDepth 100000 in
set_option maxHeartbeats 8000000 in
theorem r_opn (q d0 : Value) (sg so sc n D S i b : Nat) (w : World) (s0 : w.cell? ⟨sg, so + i, none⟩ = some (.iface 228 (.pointer (some ⟨b, 0, none⟩)))) (hb : ∃ cs, Blk w b cs 231)
    (inp : Bool) (xs ys : List Value) (da : Option Addr) (dc : Nat) (hD : Blk w D #[.slice da ys.length dc] 84) (hL : Lst w inp sg so sc n xs (i + 1) (.slice da ys.length dc) ys) (hyi : ys.length < i + 1) (hin : i + 1 ≤ n) (hn : n ≤ 1000000) (cap : Nat)
    (R : Act → World → Prop)
    (hnext : ∀ a' w1 w2 g dc', FrM q d0 (.slice (some ⟨sg, so, none⟩) n cap) D S i a' → Same w w1 → Lst w2 inp sg so sc n xs (i + 1) (.slice (some ⟨g, 0, none⟩) (ys.length + 1) dc') (ys ++ [.iface 224 (.pointer (some ⟨b, 0, none⟩))]) →
      Mods (fun k => (Value.slice da ys.length dc).ownBlock = some k) w1 w2 → ((Value.slice da ys.length dc).ownBlock = some g ∨ g = w1.heap.size) → R a' (w2.setCell ⟨D, 0, none⟩ (.slice (some ⟨g, 0, none⟩) (ys.length + 1) dc')))
    (a : Act) (ha : FrM q d0 (.slice (some ⟨sg, so, none⟩) n cap) D S i a) : Code.wp Tryz.prog c1 (fun e a' w' => e = .exit 1 ∧ R a' w') a w := by
  have HN := Lib.hid hnext
  have q1 := as_open_yes
  obtain ⟨cs, hb⟩ := hb
  have bl := hb.lt
  have k0 : w.cell? ⟨D, 0, none⟩ = some (.slice da ys.length dc) := hD.cell 0
  have k1 := hD.fr 0
  have k2 := hD.lt
  have c1 : (0 : Int) ≤ i := by omega
  have c2 : (i : Int) < n := by omega
  have hSd : ∀ o, Same w ((w.alloc o).drew) := fun o => ((Mods.refl (fun _ => False) w).alloc o).drew
  clear hnext
  obtain ⟨v, rfl⟩ := ha
  conv => arg 2; whnf
  go_wp2_with fail
  first | go_region_law (refine st_dst' rfl (.tmp 38) (.tmp 43) rfl (hL.same (hSd _)) hyi hin hn 224 (.pointer (some ⟨b, 0, none⟩)) w.heap.size 1 rfl rfl ((Blk.drew (Blk.newAt _ _ rfl)).cell 0) ?_; intro g dc' w2 hL2 hm2 hloc; have hD2 := (Same.blk (hSd (.cells #[.iface 224 (.pointer (some ⟨b, 0, none⟩))] 157)) hD).keep hm2 (fun e => own_ne hL.row hD (by decide) e); have k0' := hD2.cell 0; have k1' := hD2.fr 0; have k2' := hD2.lt) | fail
  all_goals
    go_wp2_with fail
    exact HN.out _ _ _ g dc' ⟨(fun d => cond (Nat.ble 11 d && Nat.ble d 44) (cond (Nat.ble d 26) (List.getD [_, _, _, _, _, _, _, _, _, _, _, undef, _, _, _, _] (d - 11) undef) (cond (Nat.ble d 42) (List.getD [_, _, _, _, _, _, _, _, _, _, _, _, _, _, _, _] (d - 27) undef) (List.getD [_, _] (d - 43) undef))) (v d)), rfl⟩ (hSd _) hL2 hm2 (hloc.imp (fun e => e) (fun e => e.trans (by simp)))

def Fr14 (q d0 sv : Value) (D S i m : Nat) (a : Act) : Prop := ∃ v : Nat → Value, a = ⟨#[q, d0, sv, undef, .pointer (some ⟨D, 0, none⟩), undef, .slice none 0 0, .pointer (some ⟨S, 0, none⟩), .func (.func 159) #[] #[], .func (.func 160) #[] #[.pointer (some ⟨S, 0, none⟩), .pointer (some ⟨D, 0, none⟩)], .int .i64 i, v 11, v 12, .pointer (some ⟨m, 0, none⟩), .bool true, v 15, v 16, v 17, v 18, v 19, v 20, v 21, .func (.func 160) #[] #[.pointer (some ⟨S, 0, none⟩), .pointer (some ⟨D, 0, none⟩)], v 23, v 24, v 25, v 26, v 27, v 28, v 29, v 30, v 31, v 32, v 33, v 34, v 35, v 36, v 37, v 38, v 39, v 40, v 41, v 42, v 43, v 44, v 45, v 46, v 47, v 48, v 49, v 50, v 51, v 52, v 53, v 54, v 55, v 56, v 57, v 58, v 59, v 60, v 61, v 62, v 63, v 64, v 65, v 66, v 67, v 68, v 69, v 70, v 71, v 72, v 73, v 74, v 75, v 76, v 77, v 78, v 79, v 80, v 81, v 82, v 83, v 84, v 85, v 86, v 87, v 88, v 89, v 90, v 91, v 92, v 93, v 94, v 95, v 96, v 97, v 98, v 99, v 100, v 101, v 102, v 103, v 104, v 105, v 106, v 107, v 108, v 109, v 110, v 111, v 112, v 113, v 114, v 115, v 116, v 117, v 118, v 119, v 120, v 121, v 122, v 123, v 124, v 125, v 126, v 127, v 128, v 129, v 130, v 131, v 132, v 133, v 134, v 135, v 136, v 137, v 138, v 139, v 140, v 141, v 142, v 143, v 144, v 145, v 146, v 147, v 148, v 149, v 150, v 151, v 152, v 153, v 154, v 155, v 156, v 157, v 158, v 159, v 160, v 161, v 162, v 163, v 164, v 165, v 166, v 167, v 168, v 169, v 170, v 171, v 172, v 173, v 174, v 175, v 176, v 177, v 178, v 179, v 180, v 181, v 182, v 183, v 184, v 185, v 186, v 187, v 188, v 189, v 190, v 191, v 192, v 193, v 194, v 195, v 196, v 197, v 198, v 199, v 200, v 201, v 202, v 203, v 204, v 205, v 206, v 207, v 208, v 209, v 210, v 211, v 212, v 213, v 214, v 215, v 216, v 217, v 218, v 219, v 220, v 221, v 222, v 223, v 224, v 225, v 226, v 227, v 228, v 229, v 230, v 231, v 232, v 233, v 234, v 235, v 236, v 237, v 238, v 239, v 240, v 241, v 242, v 243, v 244, v 245, v 246, v 247, v 248, v 249, v 250, v 251, v 252, v 253, v 254, v 255, v 256, v 257, v 258, v 259, v 260, v 261, v 262, v 263, v 264, v 265, v 266, v 267, v 268, v 269, v 270, v 271, v 272, v 273, v 274, v 275, v 276, v 277, v 278, v 279, v 280, v 281, v 282, v 283, v 284, v 285, v 286, v 287, v 288, v 289, v 290, v 291, v 292, v 293, v 294, v 295, v 296, v 297, v 298, v 299, v 300, v 301, v 302, v 303, v 304, v 305, v 306, v 307, v 308, v 309, v 310, v 311, v 312, v 313, v 314, v 315, v 316, v 317, v 318, v 319, v 320, v 321, v 322, v 323, v 324, v 325, v 326, v 327, v 328, v 329, v 330, v 331, v 332, v 333, v 334, v 335, v 336, v 337, v 338, v 339, v 340, v 341, v 342, v 343, v 344, v 345, v 346, v 347, v 348, v 349, v 350, v 351, v 352, v 353, v 354, v 355, v 356, v 357, v 358, v 359, v 360, v 361, v 362, v 363, v 364, v 365, v 366, v 367, v 368, v 369, v 370, v 371, v 372, v 373, v 374, v 375, v 376, v 377, v 378, v 379, v 380, v 381, v 382, v 383, v 384, v 385, v 386, v 387, v 388, v 389, v 390, v 391, v 392, v 393, v 394, v 395, v 396, v 397, v 398, v 399, v 400, v 401, v 402, v 403, v 404, v 405, v 406, v 407, v 408, v 409, v 410, v 411, v 412, v 413, v 414, v 415, v 416, v 417, v 418, v 419, v 420, v 421, v 422, v 423, v 424, v 425, v 426, v 427, v 428, v 429, v 430, v 431, v 432, v 433, v 434, v 435], []⟩

set_option maxRecDepth 100000 in
set_option maxHeartbeats 8000000 in
theorem r7_mk (q d0 : Value) (sg so n cap D S i m : Nat) (w : World) (s0 : w.cell? ⟨sg, so + i, none⟩ = some (mkV m)) (hin : i + 1 ≤ n) (hn : n ≤ 1000000) (Q : Exit → Act → World → Prop)
    (hnext : ∀ a', FrM q d0 (.slice (some ⟨sg, so, none⟩) n cap) D S i a' → Q .normal a' w)
    (a : Act) (ha : FrM q d0 (.slice (some ⟨sg, so, none⟩) n cap) D S i a) : Code.wp Tryz.prog (fst c1) Q a w := by
  have HN := Lib.hid hnext
  have q1 := as_open_mark
  unfold mkV at s0
  have c1 : (0 : Int) ≤ i := by omega
  have c2 : (i : Int) < n := by omega
  clear hnext
  obtain ⟨v, rfl⟩ := ha
  conv => arg 2; whnf
  go_wp2_with fail
  exact HN.out _ ⟨(fun d => cond (Nat.ble 11 d && Nat.ble d 37) (cond (Nat.ble d 26) (List.getD [_, _, _, _, _, _, _, _, _, _, _, undef, _, _, _, _] (d - 11) undef) (List.getD [_, _, _, _, _, _, _, _, _, _, _] (d - 27) undef)) (v d)), rfl⟩

set_option maxRecDepth 100000 in
set_option maxHeartbeats 8000000 in
theorem r10_mk (q d0 : Value) (sg so n cap D S i m : Nat) (w : World) (s0 : w.cell? ⟨sg, so + i, none⟩ = some (mkV m)) (hin : i + 1 ≤ n) (hn : n ≤ 1000000) (Q : Exit → Act → World → Prop)
    (hnext : ∀ a', Fr14 q d0 (.slice (some ⟨sg, so, none⟩) n cap) D S i m a' → Q .normal a' w)
    (a : Act) (ha : FrM q d0 (.slice (some ⟨sg, so, none⟩) n cap) D S i a) : Code.wp Tryz.prog (fst (snd c1)) Q a w := by
  have HN := Lib.hid hnext
  have q2 := as_mark_yes
  unfold mkV at s0
  have c1 : (0 : Int) ≤ i := by omega
  have c2 : (i : Int) < n := by omega
  clear hnext
  obtain ⟨v, rfl⟩ := ha
  conv => arg 2; whnf
  go_wp2_with fail
  exact HN.out _ ⟨(fun d => cond (Nat.ble 11 d && Nat.ble d 52) (cond (Nat.ble d 26) (List.getD [_, _, undef, undef, _, _, _, _, _, _, _, undef, _, _, _, _] (d - 11) undef) (cond (Nat.ble d 42) (List.getD [_, _, _, _, _, _, _, _, _, _, _, _, _, _, _, _] (d - 27) undef) (List.getD [_, _, _, _, _, _, _, _, _, _] (d - 43) undef))) (v d)), rfl⟩

set_option maxRecDepth 100000 in
set_option maxHeartbeats 8000000 in
theorem r11_mk (q d0 sv : Value) (D S i m : Nat) (w : World) (Q : Exit → Act → World → Prop)
    (hnext : ∀ a', Fr13 q d0 sv D S i m a' → Q .normal a' w)
    (a : Act) (ha : Fr14 q d0 sv D S i m a) : Code.wp Tryz.prog (fst (snd (snd c1))) Q a w := by
  have HN := Lib.hid hnext
  clear hnext
  obtain ⟨v, rfl⟩ := ha
  conv => arg 2; whnf
  go_wp2_with fail
  exact HN.out _ ⟨(fun d => cond (Nat.ble 14 d && Nat.ble d 54) (cond (Nat.ble d 29) (List.getD [_, _, _, _, _, _, _, _, undef, _, _, _, _, _, _, _] (d - 14) undef) (cond (Nat.ble d 45) (List.getD [_, _, _, _, _, _, _, _, _, _, _, _, _, _, _, _] (d - 30) undef) (List.getD [_, _, _, _, _, _, _, _, _] (d - 46) undef))) (v d)), rfl⟩
end Go.Proofs.YtmmopoofheblbaaGreatDoor.T

/- emph on any list of texts, brackets and marks. -/
namespace Go.Proofs.YtmmopoofheblbaaGreatDoor.T
open Go Go.RowKit Go.Proofs

noncomputable def c0 : Code := (findBlk 0 emB).getD .skip
noncomputable def l0 : Code := unloop c0
theorem c0_sq : c0 = .loop (.seq (fst l0) (.seq (.block 1 c1) (snd (snd l0)))) := rfl

set_option maxRecDepth 100000 in
set_option maxHeartbeats 4000000 in
theorem r5 (q d0 : Value) (sa : Option Addr) (n cap D S i : Nat) (w : World) (Q : Exit → Act → World → Prop) (h0 : n ≤ i → ∀ a', FrM q d0 (.slice sa n cap) D S i a' → Q (.exit 0) a' w) (h1 : i < n → ∀ a', FrM q d0 (.slice sa n cap) D S i a' → Q .normal a' w)
    (a : Act) (ha : FrM q d0 (.slice sa n cap) D S i a) : Code.wp Tryz.prog (fst l0) Q a w := by
  obtain ⟨v, rfl⟩ := ha
  conv => arg 2; whnf
  rcases Nat.lt_or_ge i n with hlt | hge
  · have H1 := Lib.hid (h1 hlt)
    have c1 : (i : Int) < n := by omega
    clear h0 h1
    go_wp2_with fail
    exact H1.out _ ⟨(fun d => cond (Nat.ble 23 d && Nat.ble d 26) (List.getD [_, _, _, _] (d - 23) undef) (v d)), rfl⟩
  · have H1 := Lib.hid (h0 hge)
    have c1 : ¬ ((i : Int) < n) := by omega
    clear h0 h1
    go_wp2_with fail
    exact H1.out _ ⟨(fun d => cond (Nat.ble 23 d && Nat.ble d 26) (List.getD [_, _, _, _] (d - 23) undef) (v d)), rfl⟩

set_option maxRecDepth 100000 in
set_option maxHeartbeats 4000000 in
theorem r6 (q d0 sv : Value) (D S i : Nat) (w : World) (hi : i ≤ 1000000) (Q : Exit → Act → World → Prop) (h1 : ∀ a', FrM q d0 sv D S (i + 1) a' → Q .normal a' w)
    (a : Act) (ha : FrM q d0 sv D S i a) : Code.wp Tryz.prog (snd (snd l0)) Q a w := by
  have H1 := Lib.hid h1
  clear h1
  obtain ⟨v, rfl⟩ := ha
  conv => arg 2; whnf
  have c1 : IntKind.i64.wrap ((i : Int) + 1) = (i : Int) + 1 := IntWalk.i64_in _ (by omega)
  go_wp2_with fail
  exact H1.out _ ⟨(fun d => cond (Nat.ble 27 d && Nat.ble d 28) (List.getD [_, _] (d - 27) undef) (v d)), rfl⟩

theorem closeLoop_last : ∀ (f : Nat) (l : List Dt) (p : Mk), SameMk p (closeLoop f l p).2 ∧ (closeLoop f l p = (l, p) ∨ ∃ t, (closeLoop f l p).1.getLast? = some (.fin t))
  | 0, l, p => ⟨SameMk.refl p, Or.inl rfl⟩
  | f + 1, l, p => by
    rw [closeLoop]
    split
    · exact ⟨SameMk.refl p, Or.inl rfl⟩
    · rename_i j o _
      split
      · exact ⟨⟨rfl, rfl, rfl, rfl, rfl⟩, Or.inr ⟨_, by rw [closeAt_eq, List.getLast?_concat]⟩⟩
      · obtain ⟨h1, h2⟩ := closeLoop_last f (closeAt l j o p) { p with k := p.k - take2 p o }
        refine ⟨h1, Or.inr ?_⟩
        rcases h2 with h2 | h2
        · rw [h2]
          exact ⟨_, by rw [closeAt_eq, List.getLast?_concat]⟩
        · exact h2
theorem closed_last (l : List Dt) (p : Mk) : SameMk p (closed l p).2 ∧ (closed l p = (l, p) ∨ ∃ t, (closed l p).1.getLast? = some (.fin t)) := by
  unfold closed
  split
  · exact closeLoop_last _ l p
  · exact ⟨SameMk.refl p, Or.inl rfl⟩
/-- What stands last in the list. -/
theorem step_last (l : List Dt) (x : Sr) (hx : ∀ p, x = .mk p → 0 < p.k) : (∃ t, (emStep l x).getLast? = some (.fin t)) ∨ ∃ p o, x = .mk p ∧ (emStep l x).getLast? = some (.mk o) ∧ o.c = p.c := by
  cases x with
  | fin t => exact Or.inl ⟨t, by simp [emStep]⟩
  | opn t i => exact Or.inl ⟨_, by simp only [emStep]; exact List.getLast?_concat⟩
  | mk p =>
    obtain ⟨h1, h2⟩ := closed_last l p
    have hp := hx p rfl
    simp only [emStep]
    split
    · rename_i hk
      rcases h2 with h2 | h2
      · rw [h2] at hk
        have hk' : p.k = 0 := hk
        omega
      · exact Or.inl h2
    · split
      · exact Or.inr ⟨p, _, rfl, List.getLast?_concat, h1.2.1⟩
      · exact Or.inl ⟨_, List.getLast?_concat⟩
theorem step_pos (l : List Dt) (x : Sr) (hx : ∀ p, x = .mk p → 0 < p.k) : 0 < (emStep l x).length := by
  rcases step_last l x hx with ⟨t, h⟩ | ⟨p, o, _, h, _⟩
  · rcases he : emStep l x with _ | ⟨a, b⟩
    · rw [he] at h; cases h
    · simp
  · rcases he : emStep l x with _ | ⟨a, b⟩
    · rw [he] at h; cases h
    · simp

/-- What emph holds at the begin of round i. -/
def At (E : EE) (i : Nat) (w : World) : Prop := ∃ s, EmG E w s ∧ s.hand = [] ∧ s.i = i ∧ s.dst = emDst (E.src.take i) ∧ ∀ o, s.dst.getLast? = some (.mk o) → ∃ j p, i = j + 1 ∧ E.src[j]? = some (.mk p) ∧ p.c = o.c

theorem emain {E : EE} {w : World} (h : At E 0 w) (q d0 : Value) (cap : Nat) (hn : E.src.length = E.n) (hn6 : E.n ≤ 1000000) (hadj : ∀ (j : Nat) (a b : Mk), E.src[j]? = some (.mk a) → E.src[j + 1]? = some (.mk b) → a.c ≠ b.c) (hpos : ∀ (j : Nat) (a : Mk), E.src[j]? = some (.mk a) → 0 < a.k)
    (Q : Exit → Act → World → Prop) (hend : ∀ a' w', FrM q d0 (.slice (some ⟨E.sg, E.so, none⟩) E.n cap) E.D E.S E.n a' → At E E.n w' → Q (.exit 0) a' w')
    (a : Act) (ha : FrM q d0 (.slice (some ⟨E.sg, E.so, none⟩) E.n cap) E.D E.S 0 a) : Code.wp Tryz.prog c0 Q a w := by
  rw [c0_sq]
  refine wp_loop_ghost (fun m a' w' => ∃ i, m = E.n - i ∧ i ≤ E.n ∧ FrM q d0 (.slice (some ⟨E.sg, E.so, none⟩) E.n cap) E.D E.S i a' ∧ At E i w') E.n ⟨0, rfl, Nat.zero_le _, ha, h⟩ ?_
  rintro m a1 w1 ⟨i, rfl, hi, ha1, hA⟩
  refine wp_seq (r5 q d0 _ E.n cap E.D E.S i w1 _ (fun hge a2 ha2 => ?_) (fun hlt a2 ha2 => ?_) a1 ha1)
  · have : i = E.n := by omega
    subst this
    exact hend a2 w1 ha2 hA
  · obtain ⟨s, hG, hh, hsi, hdst, hlast⟩ := hA
    obtain ⟨x, hx⟩ : ∃ x, E.src[i]? = some x := ⟨_, List.getElem?_eq_getElem (by omega)⟩
    have hxl : E.xs.length = E.n := hG.lst.len
    obtain ⟨u, hu⟩ : ∃ u, E.xs[i]? = some u := ⟨_, List.getElem?_eq_getElem (by omega)⟩
    have hcell := hG.lst.read i (by omega) (by omega) u hu
    have hsr := hG.r.srs i x u (by omega) hx hu
    have hle := hG.r.le
    have hN := hG.next hh x (by rw [hsi]; exact hx)
    have hylen := hG.r.len
    have hnn : emDst (E.src.take (i + 1)) = emStep (emDst (E.src.take i)) x := emDst_take hx
    have hstep := step_last (emDst (E.src.take i)) x (fun p hp => by subst hp; exact hpos i p hx)
    have hlast' : ∀ o, (emDst (E.src.take (i + 1))).getLast? = some (.mk o) → ∃ j p, i + 1 = j + 1 ∧ E.src[j]? = some (.mk p) ∧ p.c = o.c := by
      intro o ho
      rw [hnn] at ho
      rcases hstep with ⟨t, h1⟩ | ⟨p, o', h1, h2, h3⟩
      · rw [h1] at ho; cases ho
      · rw [h2] at ho
        cases ho
        exact ⟨i, p, rfl, by rw [hx, h1], h3.symm⟩
    have hfinal : ∀ a3 w3 s3, FrM q d0 (.slice (some ⟨E.sg, E.so, none⟩) E.n cap) E.D E.S i a3 → EmG E w3 s3 → s3.hand = [] → s3.i = i + 1 → s3.dst = emDst (E.src.take (i + 1)) → Code.wp Tryz.prog (snd (snd l0)) (Exit.then (fun a' w' => ∃ n', n' < E.n - i ∧ ∃ i, n' = E.n - i ∧ i ≤ E.n ∧ FrM q d0 (.slice (some ⟨E.sg, E.so, none⟩) E.n cap) E.D E.S i a' ∧ At E i w') Q) a3 w3 := by
      intro a3 w3 s3 ha3 hG3 hh3 hi3 hd3
      exact r6 q d0 _ E.D E.S i w3 (by omega) _ (fun a4 ha4 => ⟨E.n - (i + 1), by omega, i + 1, rfl, by omega, ha4, s3, hG3, hh3, hi3, hd3, by rw [hd3]; exact hlast'⟩) a3 ha3
    refine wp_seq (wp_block ?_)
    subst hsi
    cases x with
    | fin t =>
      obtain ⟨hin, ht1, ht2⟩ := hsr
      obtain ⟨b, ty, rfl, hty⟩ := InlAt.val hin
      have hty' : ty = t.ty := by rw [hty]; cases t <;> rfl
      have hv : InlAt (Av E (s.next (.fin t))) w1 t (.iface ty (.pointer (some ⟨b, 0, none⟩))) := by rw [av_next hh hx]; exact hin
      refine wp_mono (r_fin q d0 E.sg E.so E.sc E.n E.D E.S s.i ty (.pointer (some ⟨b, 0, none⟩)) w1 (by rw [hty']; exact ht1) (by rw [hty']; exact ht2) hcell E.inp E.xs s.ys s.da s.dc hN.D hN.lst (by omega) (by omega) hn6 cap
        (fun a' w' => FrM q d0 (.slice (some ⟨E.sg, E.so, none⟩) E.n cap) E.D E.S s.i a' ∧ ∃ s3, EmG E w' s3 ∧ s3.hand = [] ∧ s3.i = s.i + 1 ∧ s3.dst = emDst (E.src.take (s.i + 1))) (fun a' wa wb g dc' hf hs hL hm hloc => ⟨hf, _, hN.pushFin t _ g dc' hs hv (by show s.dst.length < s.i + 1; omega) (by omega) hL hm hloc, rfl, rfl, ?_⟩) a2 ha2) ?_
      · show s.dst ++ [.fin t] = _
        rw [hnn, hdst]
        rfl
      · rintro e a3 w3 ⟨rfl, ha3, s3, b1, b2, b3, b4⟩
        exact hit (hfinal a3 w3 s3 ha3 b1 b2 b3 b4)
    | opn t oi =>
      obtain ⟨b, rfl, hb, hnA⟩ := hsr
      have hv : InlAt (Av E (s.next (.opn t oi))) w1 (plainI t) (.iface 224 (.pointer (some ⟨b, 0, none⟩))) := by
        rw [av_next hh hx]
        simp only [plainI, InlAt]
        exact ⟨b, _, [.int .i64 oi], rfl, hb, hnA, by decide⟩
      refine wp_mono (r_opn q d0 E.sg E.so E.sc E.n E.D E.S s.i b w1 hcell ⟨_, hb⟩ E.inp E.xs s.ys s.da s.dc hN.D hN.lst (by omega) (by omega) hn6 cap
        (fun a' w' => FrM q d0 (.slice (some ⟨E.sg, E.so, none⟩) E.n cap) E.D E.S s.i a' ∧ ∃ s3, EmG E w' s3 ∧ s3.hand = [] ∧ s3.i = s.i + 1 ∧ s3.dst = emDst (E.src.take (s.i + 1))) (fun a' wa wb g dc' hf hs hL hm hloc => ⟨hf, _, hN.pushFin (plainI t) _ g dc' hs hv (by show s.dst.length < s.i + 1; omega) (by omega) hL hm hloc, rfl, rfl, ?_⟩) a2 ha2) ?_
      · show s.dst ++ [.fin (plainI t)] = _
        rw [hnn, hdst]
        rfl
      · rintro e a3 w3 ⟨rfl, ha3, s3, b1, b2, b3, b4⟩
        exact hit (hfinal a3 w3 s3 ha3 b1 b2 b3 b4)
    | mk p =>
      obtain ⟨rfl, _, hpk, hp0⟩ := hsr
      have hNh : (s.next (.mk p)).hand = [p] := rfl
      have hNl : (s.next (.mk p)).dst = s.dst := rfl
      have hNi : (s.next (.mk p)).i = s.i + 1 := rfl
      rw [c1_sq]
      refine wp_seq (r7_mk q d0 E.sg E.so E.n cap E.D E.S s.i p.m w1 hcell (by omega) hn6 _ (fun a3 ha3 => ?_) a2 ha2)
      refine wp_seq (r10_mk q d0 E.sg E.so E.n cap E.D E.S s.i p.m w1 hcell (by omega) hn6 _ (fun a4 ha4 => ?_) a3 ha3)
      refine wp_seq (r11_mk q d0 _ E.D E.S s.i p.m w1 _ (fun a5 ha5 => ?_) a4 ha4)
      refine wp_seq (closing hN q d0 _ s.i p hNh hp0 (fun o ho => ?_) (by show s.dst.length < s.i + 1; omega) (by show s.i + 1 ≤ E.n; omega) hn6 _ (fun a6 w6 ha6 hE hS => ?_) a5 ha5)
      · obtain ⟨j, p0, h1, h2, h3⟩ := hlast o ho
        intro hk
        have hoOk : o.Ok := by
          have hl := ho
          rw [hNl, List.getLast?_eq_getElem?] at hl
          exact (hG.r.dstMk _ o hl).2.2.1
        have hoc := kIx_inj hoOk.1 hpk.1 hk
        exact hadj j p0 p h2 (by rw [← h1]; exact hx) (h3.trans hoc)
      · obtain ⟨s6, hG6, hh6, hd6, hi6, hl6⟩ := hE
        rw [hNl] at hd6 hl6 hh6
        rw [hNi] at hi6 hl6
        obtain ⟨e1, e2, e3, e4, e5⟩ := hS
        rw [hNl] at e1 e2 e3 e4 e5
        have hl6' : s6.dst.length < s6.i := by rw [hd6, hi6]; exact hl6
        obtain ⟨hok6, pi6, hp6⟩ := hG6.r.hnd _ (by rw [hh6]; exact List.mem_singleton_self _)
        rw [← e1] at ha6
        show Code.wp _ c49 _ a6 w6
        by_cases hk : (closed s.dst p).2.k = 0
        · have x0 : w6.cell? ⟨(closed s.dst p).2.m, 0, none⟩ = some (.string ⟨#[]⟩) := by
            have := Blk.cell hp6 0
            rw [this]
            simp only [markCells]
            rw [hk]
            rfl
          refine r49_zero q d0 _ E.D E.S s.i _ w6 x0 _ (fun a7 ha7 => ?_) a6 ha6
          refine hfinal a7 w6 _ ha7 hG6.drop rfl (by show s6.i = _; omega) ?_
          show s6.dst = _
          rw [hd6, hnn, ← hdst]
          simp only [emStep]
          rw [if_pos hk]
        · cases hco : p.co with
          | true =>
            refine r49_mark hG6 q d0 _ s.i _ hh6 (by omega) (by rw [e3]; exact hco) hl6' (by omega) hn6 _ (fun a7 w7 g dc g' c' ha7 hG7 => ?_) a6 ha6
            refine hfinal a7 w7 _ ha7 hG7 rfl (by show s6.i = _; omega) ?_
            show s6.dst ++ [.mk (closed s.dst p).2] = _
            rw [hd6, hnn, ← hdst]
            simp only [emStep]
            rw [if_neg hk, if_pos hco]
          | false =>
            have ht0 : 0 < (run (closed s.dst p).2.c (closed s.dst p).2.k).size := by rw [run_size]; omega
            have hq12 : ((run (closed s.dst p).2.c (closed s.dst p).2.k).toList == [39]) = false ∧ ((run (closed s.dst p).2.c (closed s.dst p).2.k).toList == [34]) = false := by
              obtain ⟨n, hn⟩ : ∃ n, (closed s.dst p).2.k = n + 1 := ⟨(closed s.dst p).2.k - 1, by omega⟩
              have e : (run (closed s.dst p).2.c (closed s.dst p).2.k).toList = (closed s.dst p).2.c :: List.replicate n (closed s.dst p).2.c := by
                rw [ByteArray.toList_eq, hn]
                show (List.replicate (n + 1) (closed s.dst p).2.c).toArray.toList = _
                simp [List.replicate_succ]
              rw [e]
              rcases hok6.1 with hc | hc | hc <;> rw [hc] <;> constructor <;> rfl
            have hmem6 : (closed s.dst p).2.m ∈ live E s6 := by
              unfold live
              rw [hh6]
              exact List.mem_append_right _ (List.mem_append_left _ (by simp))
            have hDr := hG6.drop
            have hv : InlAt (Av E { s6 with hand := [] }) w6 (plainI (run p.c (closed s.dst p).2.k)) (.iface 224 (.pointer (some ⟨(closed s.dst p).2.m, 0, none⟩))) := by
              simp only [plainI, InlAt]
              refine ⟨_, _, [.bool (closed s.dst p).2.co, .bool (closed s.dst p).2.cc, .int .i64 pi6, .int .i64 (closed s.dst p).2.n], rfl, by rw [← e2]; exact hp6, ?_, by decide⟩
              have hnd := hG6.r.nodup
              unfold live at hnd
              rw [hh6] at hnd
              have hnd1 := List.nodup_append.1 hnd
              rintro (h1 | h1 | ⟨a0, ha0, hb0⟩)
              · exact (hG6.r.lv _ hmem6).2 h1
              · have h2 : (closed s.dst p).2.m ∈ liveD s6.dst ++ ([] ++ liveS (E.src.drop s6.i)) := h1
                rcases List.mem_append.1 h2 with h3 | h3
                · exact hnd1.2.2 _ h3 (closed s.dst p).2.m (by simp) rfl
                · have h4 := hnd1.2.1
                  simp only [List.map_cons, List.map_nil, List.singleton_append, List.nodup_cons] at h4
                  exact h4.1 h3
              · obtain ⟨cur, hc⟩ := row_blk hG6.lst.row (own_of ⟨a0, ha0, hb0⟩)
                exact hc.ne_of_type hp6 (by decide) rfl
            refine wp_mono (r49_plain q d0 _ E.D E.S s.i _ (kIx (closed s.dst p).2.c) (closed s.dst p).2.c.toNat (run (closed s.dst p).2.c (closed s.dst p).2.k) w6 _ hp6 rfl (by simp only [markCells]; rw [e3, hco]; rfl) ht0 (fun h => by rw [run_get]) hq12.1 hq12.2 (kIx_lt _) (fun w => stackOf_c _ hok6.1 w)
              E.inp E.sg E.so E.sc E.n s6.i E.xs s6.ys s6.da s6.dc hG6.D hG6.lst (by have := hG6.r.len; omega) (by omega) hn6
              (fun a' w' => FrM q d0 (.slice (some ⟨E.sg, E.so, none⟩) E.n cap) E.D E.S s.i a' ∧ ∃ s3, EmG E w' s3 ∧ s3.hand = [] ∧ s3.i = s.i + 1 ∧ s3.dst = emDst (E.src.take (s.i + 1))) (fun a' wa wb g dc' hf hs hL hm hloc => ⟨hf, _, hDr.pushFin (plainI (run p.c (closed s.dst p).2.k)) _ g dc' hs hv hl6' (by omega) hL hm hloc, rfl, hi6, ?_⟩) a6 ha6) ?_
            · show s6.dst ++ [.fin (plainI (run p.c (closed s.dst p).2.k))] = _
              rw [hd6, hnn, ← hdst]
              simp only [emStep]
              rw [if_neg hk, if_neg (by rw [hco]; decide)]
            · rintro e a7 w7 ⟨rfl, ha7, s3, b1, b2, b3, b4⟩
              exact hfinal a7 w7 s3 ha7 b1 b2 b3 b4
end Go.Proofs.YtmmopoofheblbaaGreatDoor.T

/- emph on any list of texts, brackets and marks: the whole function. -/
namespace Go.Proofs.YtmmopoofheblbaaGreatDoor.T
open Go Go.RowKit Go.Proofs

/-- A list for emph: xs stands in memory as src, in blocks that A0 and the marks do not name. -/
structure SrcAt (A0 : Nat → Prop) (w : World) (src : List Sr) (xs : List Value) : Prop where
  len : src.length = xs.length
  at_ : ∀ (j : Nat) (t : Sr) (x : Value), src[j]? = some t → xs[j]? = some x → SrAt (fun b => A0 b ∨ b ∈ liveS src) w t x
  nodup : (liveS src).Nodup
  out : ∀ m, m ∈ liveS src → ¬ A0 m
  a0 : ∀ b, A0 b → b < w.heap.size
  adj : ∀ (j : Nat) (a b : Mk), src[j]? = some (.mk a) → src[j + 1]? = some (.mk b) → a.c ≠ b.c

theorem emDst_pos {l : List Sr} (h : 0 < l.length) (hp : ∀ p, .mk p ∈ l → 0 < p.k) : 0 < (emDst l).length := by
  rcases List.eq_nil_or_concat l with rfl | ⟨l', x, rfl⟩
  · simp at h
  · rw [List.concat_eq_append] at hp ⊢
    rw [emDst_snoc]
    exact step_pos _ _ (fun p e => hp p (by rw [e]; simp))

theorem marksFrom_nil (j : Nat) : marksFrom j [] = [] := rfl

set_option maxRecDepth 100000 in
set_option maxHeartbeats 8000000 in
theorem emph_any (A0 : Nat → Prop) (w : World) (inp : Bool) (sg so sc n cap : Nat) (xs : List Value) (src : List Sr) (q : Value) (da : Option Addr) (dc : Nat) (hn : src.length = n) (hn0 : 0 < n) (hn6 : n ≤ 1000000) (hsrc : SrcAt (fun b => A0 b ∨ (inp = true ∧ b = sg)) w src xs)
    (hL : Lst w inp sg so sc n xs 0 (.slice da 0 dc) []) (hd0 : (inp = true ∧ da = some ⟨sg, 0, none⟩ ∧ dc = sc) ∨ (inp = false ∧ da = none ∧ dc = 0)) :
    Calls Tryz.prog 117 #[q, .slice da 0 dc, .slice (some ⟨sg, so, none⟩) n cap] w fun e w' => ∃ g dc ys, e = .returned (.slice (some ⟨g, 0, none⟩) ys.length dc) ∧ 0 < ys.length ∧ ys.length ≤ n ∧ ((inp = true ∧ g = sg ∧ dc = sc) ∨ w.heap.size ≤ g) ∧
      Mods (fun b => b ∈ liveS src ∨ (inp = true ∧ b = sg)) w w' ∧ w'.ownsRow 0 157 1 (.slice (some ⟨g, 0, none⟩) ys.length dc) ys.length ys ∧ InlsAt (fun b => A0 b ∨ b = g) w' (emphM src) ys := by
  have HSRC := Lib.hid hsrc
  have HL := Lib.hid hL
  have HD0 := Lib.hid hd0
  have HN := Lib.hid hn
  clear hsrc hL hd0 hn
  go_enter Tryz.func117, Tryz.ntmps117
  go_wp2_with fail
  go_step3
  go_wp2_with fail
  go_step3
  go_wp2_with fail
  generalize hW : (World.alloc _ _ : World) = W
  have hS : Same w W := by subst hW; exact ((Mods.refl _ w).alloc _).alloc _
  have hD : Blk W w.heap.size #[.slice da 0 dc] 84 := by subst hW; exact (Blk.newAt _ _ rfl).alloc _
  have hK : Blk W (w.heap.size + 1) #[.slice none 0 0, .slice none 0 0, .slice none 0 0, .slice none 0 0, .slice none 0 0] 281 := by subst hW; exact Blk.newAt _ _ (by simp)
  clear hW
  have hsrc := HSRC.out
  have hL := HL.out
  have hd0 := HD0.out
  have hn := HN.out
  have hdav : ∀ a, da = some a → inp = true ∧ a.block = sg := by
    intro a ha
    rcases hd0 with ⟨h1, h2, _⟩ | ⟨_, h2, _⟩
    · rw [h2] at ha
      cases ha
      exact ⟨h1, rfl⟩
    · rw [h2] at ha
      cases ha
  have hlv : live ⟨fun b => A0 b ∨ (inp = true ∧ b = sg), fun b => b ∈ liveS src ∨ (inp = true ∧ b = sg), w, w.heap.size, w.heap.size + 1, inp, sg, so, sc, n, xs, src⟩ ⟨0, da, dc, [], [], [], fun _ => none, fun _ => 0⟩ = liveS src := by
    simp [live, liveD, marksFrom]
  have hG : EmG ⟨fun b => A0 b ∨ (inp = true ∧ b = sg), fun b => b ∈ liveS src ∨ (inp = true ∧ b = sg), w, w.heap.size, w.heap.size + 1, inp, sg, so, sc, n, xs, src⟩ W ⟨0, da, dc, [], [], [], fun _ => none, fun _ => 0⟩ := by
    refine ⟨⟨hS.mono (fun _ _ x => absurd x (fun x => x)), Nat.le_refl _, Nat.le_succ _, hK, fun q _ => ⟨by simp [stkOf, marksFrom], Or.inl ⟨by simp [stkV, stkOf, marksFrom], by simp [stkOf, marksFrom]⟩⟩, fun _ _ _ h => (by cases h), fun _ _ _ _ _ _ _ h => (by cases h), fun a ha => Or.inl (Or.inr (hdav a ha)), rfl, Nat.le_refl _, fun j d x h => (by simp at h), ?_, fun _ h => (by cases h), ?_, ?_, ?_, hsrc.len, fun a ha => Or.inl (hdav a ha)⟩, ?_, ?_⟩
    · intro j t x _ h1 h2
      refine (hsrc.at_ j t x h1 h2).keep (A' := _) hS (fun _ _ _ _ _ e => absurd e (fun e => e)) ?_ (fun _ _ e => e)
      rintro b (hb | hb | ⟨a, ha, hb⟩)
      · exact Or.inl (Or.inl hb)
      · rw [hlv] at hb
        exact Or.inl (Or.inr hb)
      · obtain ⟨h3, h4⟩ := hdav a ha
        exact Or.inl (Or.inl (Or.inr ⟨h3, by rw [← hb, h4]⟩))
    · rw [hlv]
      exact hsrc.nodup
    · intro m hm
      rw [hlv] at hm
      exact ⟨Or.inl hm, hsrc.out m hm⟩
    · exact hsrc.a0
    · exact hD
    · show Lst W inp sg so sc n xs 0 (.slice da 0 dc) []
      exact hL.same hS
  have hpos : ∀ (j : Nat) (a : Mk), src[j]? = some (.mk a) → 0 < a.k := by
    intro j a hj
    obtain ⟨x, hx⟩ : ∃ x, xs[j]? = some x := ⟨_, List.getElem?_eq_getElem (by have := (List.getElem?_eq_some_iff.1 hj).1; have := hsrc.len; omega)⟩
    exact (hsrc.at_ j _ x hj hx).2.2.2
  refine emain (E := ⟨fun b => A0 b ∨ (inp = true ∧ b = sg), fun b => b ∈ liveS src ∨ (inp = true ∧ b = sg), w, w.heap.size, w.heap.size + 1, inp, sg, so, sc, n, xs, src⟩) ⟨_, hG, rfl, rfl, rfl, fun o h => by cases h⟩ q _ cap hn hn6 hsrc.adj hpos _ ?_ _ ⟨fun _ => undef, rfl⟩
  rintro a' w' ⟨v, rfl⟩ ⟨s, hG', hh, hsi, hdst, _⟩
  have HG := Lib.hid hG'
  have HP := Lib.hid hpos
  have HH := Lib.hid hh
  have HDS := Lib.hid hdst
  have HSI := Lib.hid hsi
  have k0 : w'.cell? ⟨w.heap.size, 0, none⟩ = some (.slice s.da s.ys.length s.dc) := hG'.D.cell 0
  clear hS hD hK hG hG' hlv hpos hdav hsrc hL hd0 hn hsi hh hdst
  go_wp2_with fail
  go_ret
  have hG := HG.out
  have hsrc := HSRC.out
  have hdst := HDS.out
  have hdst : s.dst = emDst src := by
    have h1 : s.dst = emDst (src.take n) := hdst
    rw [h1, ← HN.out, List.take_length]
  have hlen := hG.r.len
  have hmk : ∀ p, .mk p ∈ src → 0 < p.k := fun p hp => by
    obtain ⟨j, hj, he⟩ := List.mem_iff_getElem.1 hp
    exact HP.out j p (by rw [List.getElem?_eq_getElem hj, he])
  have hpos2 := emDst_pos (l := src) (by rw [HN.out]; exact hn0) hmk
  rw [← hdst] at hpos2
  obtain ⟨g, hda', hcap, _, _⟩ := hG.lst.cap (by omega)
  have hle : s.ys.length ≤ n := by
    have h1 := hG.r.le
    have h2 : s.i = n := HSI.out
    omega
  have hown : (Value.slice s.da s.ys.length s.dc).ownBlock = some g := by rw [hda']; rfl
  obtain ⟨cur, hcur⟩ := row_blk hG.lst.row hown
  refine ⟨g, s.dc, s.ys, by rw [hda']; rfl, by omega, hle, ?_, hG.r.mods, ?_, ?_⟩
  · cases hb : inp with
    | true =>
      obtain ⟨_, _, h3, _⟩ := hG.lst.yes hb
      rw [hda'] at h3
      have h4 : (Value.slice (some ⟨g, 0, none⟩) s.ys.length s.dc) = .slice (some ⟨sg, 0, none⟩) s.ys.length sc := h3
      simp only [Value.slice.injEq, Option.some.injEq, Addr.mk.injEq] at h4
      exact Or.inl ⟨rfl, h4.1.1, h4.2.2⟩
    | false =>
      rcases hG.r.fi _ hda' with ⟨h1, _⟩ | h1
      · have h2 : inp = true := h1
        rw [hb] at h2
        cases h2
      · exact Or.inr h1
  · have := hG.lst.row
    rw [hda'] at this
    exact this
  · refine InlsAt.of (by rw [emphM, List.length_map, ← hdst, hlen]) (fun j t v h1 h2 => ?_)
    rw [emphM, List.getElem?_map, Option.map_eq_some_iff] at h1
    obtain ⟨d, h3, rfl⟩ := h1
    rw [← hdst] at h3
    have hdt := hG.r.dts j d v h3 h2
    cases d with
    | fin t =>
      refine InlAt.mono hdt ?_
      rintro b (h4 | h4)
      · exact Or.inl (Or.inl (Or.inl h4))
      · exact Or.inl (Or.inr (Or.inr ⟨_, hda', h4.symm⟩))
    | mk p =>
      obtain ⟨rfl, hp, _, _⟩ := hdt
      simp only [Dt.inl, markI, InlAt]
      refine ⟨p.m, _, [.bool p.co, .bool p.cc, .int .i64 j, .int .i64 p.n], rfl, hp, ?_, tt_mark⟩
      rintro (h4 | h4)
      · refine (hG.r.lv p.m ?_).2 (Or.inl h4)
        unfold live
        exact List.mem_append_left _ (liveD_mem h3)
      · exact hcur.ne_of_type hp (by decide) h4.symm
end Go.Proofs.YtmmopoofheblbaaGreatDoor.T

/- inline on any text: the list that it makes. -/
namespace Go.Proofs.YtmmopoofheblbaaGreatDoor.T
open Go Go.RowKit Go.Proofs

theorem liveS_append (a b : List Sr) : liveS (a ++ b) = liveS a ++ liveS b := by
  induction a with
  | nil => rfl
  | cons x a ih => cases x <;> simp [liveS, ih]
theorem SrcAt.live_lt {A : Nat → Prop} {w : World} {l : List Sr} {xs : List Value} (h : SrcAt A w l xs) : ∀ m, m ∈ liveS l → m < w.heap.size ∧ ∃ cs, Blk w m cs 268 := by
  have key : ∀ (l' : List Sr) (i : Nat), (∀ j t, l'[j]? = some t → l[i + j]? = some t) → ∀ b, b ∈ liveS l' → b < w.heap.size ∧ ∃ cs, Blk w b cs 268 := by
    intro l'
    induction l' with
    | nil => intro i _ b hb; cases hb
    | cons x l' ih =>
      intro i hx b hb
      have ht := ih (i + 1) (fun j t hj => by rw [show i + 1 + j = i + (j + 1) by omega]; exact hx (j + 1) t (by simpa using hj)) b
      cases x with
      | fin t => exact ht hb
      | opn t k => exact ht hb
      | mk p =>
        rcases List.mem_cons.1 hb with e | hb
        · subst e
          have h1 := hx 0 _ rfl
          obtain ⟨x, hx'⟩ : ∃ x, xs[i + 0]? = some x := ⟨_, List.getElem?_eq_getElem (by have := (List.getElem?_eq_some_iff.1 h1).1; have := h.len; omega)⟩
          obtain ⟨_, ⟨a, ha⟩, _⟩ := h.at_ _ _ x h1 hx'
          exact ⟨Blk.lt ha, _, ha⟩
        · exact ht hb
  exact fun m hm => key l 0 (fun j t hj => by rw [Nat.zero_add]; exact hj) m hm

theorem SrcAt.move {A A' X : Nat → Prop} {w w' : World} {l : List Sr} {xs : List Value} (h : SrcAt A w l xs) (hm : Mods X w w') (hX : ∀ b cs T, Blk w b cs T → TreeTy T → X b → A b) (hA : ∀ b, A' b → A b ∨ w.heap.size ≤ b) (h0 : ∀ b, A' b → b < w'.heap.size) : SrcAt A' w' l xs := by
  refine ⟨h.len, fun j t x h1 h2 => ?_, h.nodup, fun m hmm ha => ?_, h0, h.adj⟩
  · refine (h.at_ j t x h1 h2).keep hm (fun b cs T hb hT hx => Or.inl (hX b cs T hb hT hx)) ?_ ?_
    · rintro b (hb | hb)
      · exact (hA b hb).imp (fun e => Or.inl e) (fun e => e)
      · exact Or.inl (Or.inr hb)
    · intro p hp hx
      subst hp
      obtain ⟨_, ⟨a, ha⟩, _⟩ := h.at_ j _ x h1 h2
      exact h.out p.m (liveS_mem h1) (hX _ _ _ ha tt_mark hx)
  · have hl := (h.live_lt m hmm).1
    rcases hA m ha with e | e
    · exact h.out m hmm e
    · omega

/-- One more value behind the list, in blocks that the list's trees avoid. -/
theorem SrcAt.push {A A' B X : Nat → Prop} {w w' : World} {l : List Sr} {xs : List Value} (h : SrcAt (fun b => A b ∨ B b) w l xs) (hm : Mods X w w') (hX : ∀ b cs T, Blk w b cs T → TreeTy T → X b → A b) (hA : ∀ b, A' b → A b ∨ w.heap.size ≤ b) (h0 : ∀ b, A' b → b < w'.heap.size)
    (x : Sr) (v : Value) (hx : SrAt (fun b => ¬ B b) w x v) (hXB : ∀ b, X b → ¬ B b) (hAB : ∀ b, A' b → ¬ B b) (hxm : ∀ p, x = .mk p → B p.m) (hadj : ∀ a b, l.getLast? = some (.mk a) → x = .mk b → a.c ≠ b.c) : SrcAt A' w' (l ++ [x]) (xs ++ [v]) := by
  have hlive : ∀ b, b ∈ liveS (l ++ [x]) → b ∈ liveS l ∨ ∃ p, x = .mk p ∧ b = p.m := by
    intro b hb
    rw [liveS_append] at hb
    rcases List.mem_append.1 hb with hb | hb
    · exact Or.inl hb
    · cases x with
      | fin t => cases hb
      | opn t i => cases hb
      | mk p => exact Or.inr ⟨p, rfl, by simpa [liveS] using hb⟩
  have hMv := h.move hm (fun b cs T hb hT hx => Or.inl (hX b cs T hb hT hx)) (A' := A') (fun b hb => (hA b hb).imp (fun e => Or.inl e) (fun e => e)) h0
  have hnB : ∀ b, b ∈ liveS l → ¬ B b := fun b hb hB => h.out b hb (Or.inr hB)
  refine ⟨by simp [h.len], fun j t u h1 h2 => ?_, ?_, fun m hmm ha => ?_, h0, fun j a b h1 h2 => ?_⟩
  · rcases getElem?_snoc h1 with h3 | ⟨rfl, rfl⟩
    · rcases getElem?_snoc h2 with h4 | ⟨rfl, _⟩
      · refine (h.at_ j t u h3 h4).keep hm (fun b cs T hb hT hx => Or.inl (Or.inl (hX b cs T hb hT hx))) ?_ ?_
        · rintro b (hb | hb)
          · exact (hA b hb).imp (fun e => Or.inl (Or.inl e)) (fun e => e)
          · rcases hlive b hb with e | ⟨p, hp, rfl⟩
            · exact Or.inl (Or.inr e)
            · exact Or.inl (Or.inl (Or.inr (hxm p hp)))
        · intro p hp hx
          subst hp
          obtain ⟨_, ⟨a, ha⟩, _⟩ := h.at_ j _ u h3 h4
          exact h.out p.m (liveS_mem h3) (Or.inl (hX _ _ _ ha tt_mark hx))
      · have := (List.getElem?_eq_some_iff.1 h3).1
        have := h.len
        omega
    · rcases getElem?_snoc h2 with h4 | ⟨_, rfl⟩
      · have := (List.getElem?_eq_some_iff.1 h4).1
        have := h.len
        omega
      · have hk : ∀ b, (A' b ∨ b ∈ liveS (l ++ [t])) → (∀ p, t ≠ .mk p) → ¬ B b := by
          rintro b (hb | hb) hne
          · exact hAB b hb
          · rcases hlive b hb with e | ⟨p, hp, _⟩
            · exact hnB b e
            · exact absurd hp (hne p)
        cases t with
        | mk p =>
          obtain ⟨e1, ⟨i, hi⟩, e2⟩ := hx
          exact ⟨e1, ⟨i, Blk.keep hi hm (fun hx => hXB _ hx (hxm p rfl))⟩, e2⟩
        | fin t => exact SrAt.keep (d := .fin t) hx hm (fun b _ _ _ _ hxb => hXB b hxb) (fun b hb => Or.inl (hk b hb (fun p e => by cases e))) (fun p e => by cases e)
        | opn t k => exact SrAt.keep (d := .opn t k) hx hm (fun b _ _ _ _ hxb => hXB b hxb) (fun b hb => Or.inl (hk b hb (fun p e => by cases e))) (fun p e => by cases e)
  · rw [liveS_append]
    refine List.nodup_append.2 ⟨h.nodup, ?_, ?_⟩
    · cases x <;> simp [liveS]
    · intro a ha b hb e
      subst e
      have h5 : ∃ p, x = .mk p ∧ a = p.m := by
        cases x with
        | fin t => cases hb
        | opn t i => cases hb
        | mk p => exact ⟨p, rfl, by simpa [liveS] using hb⟩
      obtain ⟨p, hp, rfl⟩ := h5
      exact hnB _ ha (hxm p hp)
  · rcases hlive m hmm with e | ⟨p, hp, rfl⟩
    · exact hMv.out m e ha
    · exact hAB _ ha (hxm p hp)
  · rcases getElem?_snoc h2 with h3 | ⟨h3, h4⟩
    · rcases getElem?_snoc h1 with h5 | ⟨h5, _⟩
      · exact h.adj j a b h5 h3
      · have := (List.getElem?_eq_some_iff.1 h3).1
        omega
    · rcases getElem?_snoc h1 with h5 | ⟨h5, _⟩
      · refine hadj a b ?_ h4.symm
        rw [List.getLast?_eq_getElem?, ← h3, Nat.add_sub_cancel]
        exact h5
      · omega

/-- The list that inline makes, seen from the world w0 in which it began; its trees avoid the blocks B. -/
structure ISt (B : Nat → Prop) (w0 w : World) (bp : Nat) (p : PSt) (s : ByteArray) (e : Nat) (lv : Value) (xs : List Value) (l : List Sr) : Prop where
  mods : Mods (fun b => b = bp) w0 w
  at_ : PsAt w bp { p with s := s, list := lv, emitted := ((e : Nat) : Int) }
  row : w.ownsRow 0 157 1 lv xs.length xs
  src : SrcAt (fun b => lv.ownBlock = some b ∨ B b) w l xs
  fresh : ∀ g, lv.ownBlock = some g → w0.heap.size ≤ g ∧ ¬ B g
  new : ∀ m, m ∈ liveS l → w0.heap.size ≤ m
  nb : ¬ B bp

def NoB : Nat → Prop := fun _ => False

theorem ISt.same {B : Nat → Prop} {w0 w w' : World} {bp : Nat} {p : PSt} {s : ByteArray} {e : Nat} {lv : Value} {xs : List Value} {l : List Sr} (h : ISt B w0 w bp p s e lv xs l) (hm : Same w w') : ISt B w0 w' bp p s e lv xs l :=
  ⟨h.mods.then hm (fun _ _ x => absurd x (fun x => x)), h.at_.same hm, ownsRow_keep h.row hm (fun _ _ x => x), h.src.move hm (fun _ _ _ _ _ x => absurd x (fun x => x)) (fun _ x => Or.inl x) (fun b hb => by have := h.src.a0 b hb; have := hm.size; omega), h.fresh, h.new, h.nb⟩

theorem ps_ty {w : World} {bp : Nat} {q : PSt} (h : PsAt w bp q) {b T : Nat} {cs : Array Value} (hb : Blk w b cs T) (e : b = bp) : T = 167 := by
  obtain ⟨tail, htl⟩ := id h
  by_cases hT : T = 167
  · exact hT
  · exact absurd e (hb.ne_of_type htl hT)

/-- A change of the parse state alone, and blocks that are new. -/
theorem ISt.state {B' : Nat → Prop} {w0 w w' : World} {bp : Nat} {p q : PSt} {s : ByteArray} {e e' : Nat} {lv : Value} {xs : List Value} {l : List Sr} {B : Nat → Prop} (h : ISt B w0 w bp p s e lv xs l) (hm : Mods (fun k => k = bp) w w') (hp : PsAt w' bp { q with s := s, list := lv, emitted := ((e' : Nat) : Int) })
    (hB : ∀ b, B' b → B b ∨ w.heap.size ≤ b) (hB0 : ∀ b, B' b → b < w'.heap.size) : ISt B' w0 w' bp q s e' lv xs l := by
  have hlb := h.at_.lt
  refine ⟨h.mods.then hm (fun _ _ x => x), hp, ownsRow_keep h.row hm (fun k hk x => own_ne_ps h.row h.at_ (by decide) (by rw [← x]; exact hk)), h.src.move hm (fun b cs T hb hT x => ?_) ?_ ?_, fun g hg => ⟨(h.fresh g hg).1, fun hb => ?_⟩, h.new, fun hb => ?_⟩
  · have := ps_ty h.at_ hb x
    rw [this] at hT
    exact absurd hT (by decide)
  · rintro b (hb | hb)
    · exact Or.inl (Or.inl hb)
    · exact (hB b hb).imp (fun e => Or.inr e) (fun e => e)
  · rintro b (hb | hb)
    · have := h.src.a0 b (Or.inl hb)
      have := hm.size
      omega
    · exact hB0 b hb
  · rcases hB g hb with e | e
    · exact (h.fresh g hg).2 e
    · obtain ⟨cur, hc⟩ := row_blk h.row hg
      have := hc.lt
      omega
  · rcases hB bp hb with e | e
    · exact h.nb e
    · omega

/-- A piece of the text as it stands. -/
def plainS (s : ByteArray) (e i : Nat) : List Sr := if e < i then [.fin (plainI (s.extract e i))] else []

theorem list_A {B : Nat → Prop} {w0 w : World} {bp : Nat} {p : PSt} {s : ByteArray} {e : Nat} {lv : Value} {xs : List Value} {l : List Sr} (h : ISt B w0 w bp p s e lv xs l) : ∀ b cs T, Blk w b cs T → TreeTy T → (b = bp ∨ lv.ownBlock = some b) → lv.ownBlock = some b := by
  rintro b cs T hb hT (x | x)
  · have := ps_ty h.at_ hb x
    rw [this] at hT
    exact absurd hT (by decide)
  · exact x

theorem ISt.emit {B : Nat → Prop} {w0 w : World} {bp : Nat} {p : PSt} {s : ByteArray} {e : Nat} {lv : Value} {xs : List Value} {l : List Sr} (h : ISt B w0 w bp p s e lv xs l) (i : Nat) (he : e ≤ i) (hi : i ≤ s.size) (hs : s.size ≤ 1000000) (hn : xs.length ≤ 1000000) :
    Calls Tryz.prog 113 #[.pointer (some ⟨bp, 0, none⟩), .int .i64 i] w fun e' w' => e' = .returned (.tuple #[]) ∧ ∃ lv' xs', Mods (fun k => k = bp ∨ lv.ownBlock = some k) w w' ∧ ISt B w0 w' bp p s i lv' xs' (l ++ plainS s e i) := by
  by_cases hlt : e < i
  · refine (emit_some bp xs.length _ xs e i w h.at_ rfl hlt hi hs h.row hn).mono ?_
    rintro e' w' ⟨rfl, hm, g, cap, b, hp, hown, hb, hbn, hloc⟩
    have hBlt : ∀ b, B b → b < w.heap.size := fun b hb => h.src.a0 b (Or.inr hb)
    obtain ⟨curg, hcg⟩ := row_blk hown rfl
    have hgB : ¬ B g := by
      rcases hloc with e | e
      · exact (h.fresh g e).2
      · intro hb'
        have := hBlt g hb'
        omega
    have hbg : g ≠ b := hcg.ne_of_type hb (by decide)
    have hmv : SrcAt (fun b' => (g = b' ∨ B b') ∨ b' = b) w' l xs := by
      refine h.src.move hm (fun b cs T hb hT hx => Or.inl (list_A h b cs T hb hT hx)) ?_ ?_
      · rintro b' ((rfl | e) | rfl)
        · rcases hloc with e | e
          · exact Or.inl (Or.inl e)
          · exact Or.inr e
        · exact Or.inl (Or.inr e)
        · exact Or.inr hbn
      · rintro b' ((rfl | e) | rfl)
        · exact hcg.lt
        · have := hBlt b' e
          have := hm.size
          omega
        · exact hb.lt
    refine ⟨rfl, _, xs ++ [.iface 224 (.pointer (some ⟨b, 0, none⟩))], hm, ?_, hp, by simpa using hown, ?_, ?_, ?_, h.nb⟩
    · refine h.mods.then hm (fun b hb hh => ?_)
      rcases hh with hh | hh
      · exact hh
      · have := (h.fresh b hh).1; omega
    · unfold plainS
      rw [if_pos hlt]
      refine SrcAt.push (A := fun b' => g = b' ∨ B b') (B := fun b' => b' = b) hmv (Mods.refl (fun _ => False) w') (fun _ _ _ _ _ x => absurd x (fun x => x)) (fun b' hb' => Or.inl ?_) (fun b' hb' => ?_) _ _ ?_ (fun _ x => absurd x (fun x => x)) (fun b' hb' e => ?_) (fun p hp => by cases hp) (fun a b _ hx => by cases hx)
      · rcases hb' with e | e
        · cases e
          exact Or.inl rfl
        · exact Or.inr e
      · rcases hb' with e | e
        · cases e
          exact hcg.lt
        · have := hBlt b' e
          have := hm.size
          omega
      · refine ⟨?_, (by show 224 ≠ _; decide), (by show 224 ≠ _; decide)⟩
        simp only [plainI, InlAt]
        exact ⟨b, _, [], rfl, hb, fun e => e rfl, by decide⟩
      · subst e
        rcases hb' with e | e
        · cases e
          exact hbg rfl
        · have := hBlt b' e
          omega
    · intro g' hg'
      cases hg'
      refine ⟨?_, hgB⟩
      rcases hloc with hh | hh
      · exact (h.fresh g hh).1
      · exact Nat.le_trans h.mods.size hh
    · intro m hm
      unfold plainS at hm
      rw [if_pos hlt, liveS_append] at hm
      rcases List.mem_append.1 hm with h1 | h1
      · exact h.new m h1
      · cases h1
  · have : e = i := by omega
    subst this
    refine (emit_none bp _ e e w h.at_ rfl (by omega)).mono ?_
    rintro e' w' ⟨rfl, rfl⟩
    refine ⟨rfl, lv, xs, Mods.refl _ _, ?_⟩
    unfold plainS
    rw [if_neg hlt, List.append_nil]
    exact h
end Go.Proofs.YtmmopoofheblbaaGreatDoor.T

/- inline on any text: the next sign is looked at. -/
namespace Go.Proofs.YtmmopoofheblbaaGreatDoor.T
open Go Go.RowKit Go.Proofs

noncomputable def inB : Code := (Tryz.f83.body).getD .skip
noncomputable def i0 : Code := (findBlk 0 inB).getD .skip
noncomputable def i1 : Code := (findBlk 1 inB).getD .skip
noncomputable def iSW : Code := fst (snd i1)
noncomputable def iCall : Code := fst (snd (snd i1))
noncomputable def iClose : Code := fst (snd (snd (snd i1)))
noncomputable def iInc : Code := snd (snd (snd (snd i1)))
theorem i0_sq : i0 = .loop (.seq (fst (unloop i0)) (.block 1 (.seq (fst i1) (.seq iSW (.seq iCall (.seq iClose iInc)))))) := rfl

/-- The options: strikethrough or not, all else off. -/
structure OptS (w : World) (p : PSt) (st : Bool) : Prop where
  k1 : Opt w p 1 st
  k3 : Opt w p 3 false
  k6 : Opt w p 6 false
  k7 : Opt w p 7 false
  k8 : Opt w p 8 false
  k9 : Opt w p 9 false
theorem OptS.keep {w w' : World} {p : PSt} {st : Bool} {S : Nat → Prop} (h : OptS w p st) (hm : Mods S w w') (hS : ¬ S p.parser) : OptS w' p st :=
  ⟨h.k1.keep hm hS, h.k3.keep hm hS, h.k6.keep hm hS, h.k7.keep hm hS, h.k8.keep hm hS, h.k9.keep hm hS⟩

/-- The function that reads what begins with a sign (code spans apart). -/
def pOf (st : Bool) (c : UInt8) : Option Nat :=
  if c = 92 then some 101 else if c = 60 then some 104 else if c = 91 then some 105 else if c = 33 then some 106 else if c = 95 then some 107 else if c = 42 then some 107 else if c = 126 then (if st then some 107 else none) else if c = 10 then some 110 else if c = 38 then some 111 else none
def fnV : Option Nat → Value
  | none => .nilFunc
  | some f => .func (.func f) #[] #[]

def FrI (bp : Nat) (s : ByteArray) (ov : Value) (last : Nat) (bt : Bool) (i : Nat) (a : Act) : Prop := ∃ v : Nat → Value, a = ⟨#[.pointer (some ⟨bp, 0, none⟩), .string s, undef, undef, .slice none 0 0, ov, .int .i64 last, .bool bt, .int .i64 i, v 9, v 10, v 11, v 12, v 13, v 14, v 15, v 16, v 17, v 18, v 19, v 20, v 21, v 22, v 23, v 24, v 25, v 26, v 27, v 28, v 29, v 30, v 31, v 32, v 33, v 34, v 35, v 36, v 37, v 38, v 39, v 40, v 41, v 42, v 43, v 44, v 45, v 46, v 47, v 48, v 49, v 50, v 51, v 52, v 53, v 54, v 55, v 56, v 57, v 58, v 59, v 60, v 61, v 62, v 63, v 64, v 65, v 66, v 67, v 68, v 69, v 70, v 71, v 72, v 73, v 74, v 75, v 76, v 77, v 78, v 79, v 80, v 81, v 82, v 83, v 84, v 85, v 86, v 87, v 88, v 89, v 90, v 91, v 92, v 93, v 94, v 95, v 96, v 97, v 98, v 99, v 100, v 101, v 102, v 103, v 104, v 105, v 106, v 107, v 108, v 109, v 110, v 111, v 112, v 113, v 114, v 115, v 116, v 117, v 118, v 119, v 120, v 121, v 122, v 123, v 124, v 125, v 126, v 127, v 128, v 129, v 130, v 131, v 132, v 133, v 134, v 135, v 136, v 137, v 138, v 139, v 140, v 141, v 142, v 143, v 144, v 145, v 146, v 147, v 148, v 149, v 150, v 151, v 152, v 153, v 154, v 155, v 156, v 157, v 158, v 159, v 160, v 161, v 162, v 163, v 164, v 165, v 166, v 167, v 168, v 169, v 170, v 171, v 172, v 173, v 174, v 175, v 176, v 177, v 178, v 179, v 180, v 181, v 182, v 183, v 184, v 185, v 186, v 187, v 188, v 189, v 190, v 191, v 192, v 193, v 194, v 195, v 196, v 197, v 198, v 199, v 200, v 201, v 202, v 203, v 204, v 205, v 206, v 207, v 208, v 209, v 210, v 211, v 212, v 213, v 214, v 215, v 216, v 217, v 218, v 219, v 220, v 221, v 222, v 223, v 224, v 225, v 226, v 227, v 228, v 229, v 230, v 231, v 232, v 233, v 234, v 235, v 236, v 237, v 238, v 239, v 240, v 241, v 242, v 243, v 244, v 245, v 246, v 247, v 248, v 249, v 250, v 251, v 252, v 253, v 254, v 255, v 256, v 257, v 258, v 259, v 260, v 261, v 262, v 263, v 264, v 265, v 266, v 267, v 268, v 269, v 270, v 271, v 272, v 273, v 274, v 275, v 276, v 277, v 278, v 279, v 280, v 281, v 282, v 283, v 284, v 285, v 286, v 287, v 288, v 289, v 290, v 291, v 292, v 293, v 294, v 295, v 296, v 297, v 298, v 299, v 300, v 301, v 302, v 303, v 304, v 305, v 306, v 307, v 308, v 309, v 310, v 311, v 312, v 313, v 314, v 315, v 316, v 317, v 318, v 319, v 320, v 321, v 322, v 323, v 324, v 325, v 326, v 327, v 328, v 329, v 330, v 331, v 332, v 333, v 334], []⟩
def FrP (bp : Nat) (s : ByteArray) (ov : Value) (last : Nat) (bt : Bool) (i : Nat) (f : Option Nat) (a : Act) : Prop := ∃ v : Nat → Value, a = ⟨#[.pointer (some ⟨bp, 0, none⟩), .string s, undef, undef, .slice none 0 0, ov, .int .i64 last, .bool bt, .int .i64 i, fnV f, v 10, v 11, v 12, v 13, v 14, v 15, v 16, v 17, v 18, v 19, v 20, v 21, v 22, v 23, v 24, v 25, v 26, v 27, v 28, v 29, v 30, v 31, v 32, v 33, v 34, v 35, v 36, v 37, v 38, v 39, v 40, v 41, v 42, v 43, v 44, v 45, v 46, v 47, v 48, v 49, v 50, v 51, v 52, v 53, v 54, v 55, v 56, v 57, v 58, v 59, v 60, v 61, v 62, v 63, v 64, v 65, v 66, v 67, v 68, v 69, v 70, v 71, v 72, v 73, v 74, v 75, v 76, v 77, v 78, v 79, v 80, v 81, v 82, v 83, v 84, v 85, v 86, v 87, v 88, v 89, v 90, v 91, v 92, v 93, v 94, v 95, v 96, v 97, v 98, v 99, v 100, v 101, v 102, v 103, v 104, v 105, v 106, v 107, v 108, v 109, v 110, v 111, v 112, v 113, v 114, v 115, v 116, v 117, v 118, v 119, v 120, v 121, v 122, v 123, v 124, v 125, v 126, v 127, v 128, v 129, v 130, v 131, v 132, v 133, v 134, v 135, v 136, v 137, v 138, v 139, v 140, v 141, v 142, v 143, v 144, v 145, v 146, v 147, v 148, v 149, v 150, v 151, v 152, v 153, v 154, v 155, v 156, v 157, v 158, v 159, v 160, v 161, v 162, v 163, v 164, v 165, v 166, v 167, v 168, v 169, v 170, v 171, v 172, v 173, v 174, v 175, v 176, v 177, v 178, v 179, v 180, v 181, v 182, v 183, v 184, v 185, v 186, v 187, v 188, v 189, v 190, v 191, v 192, v 193, v 194, v 195, v 196, v 197, v 198, v 199, v 200, v 201, v 202, v 203, v 204, v 205, v 206, v 207, v 208, v 209, v 210, v 211, v 212, v 213, v 214, v 215, v 216, v 217, v 218, v 219, v 220, v 221, v 222, v 223, v 224, v 225, v 226, v 227, v 228, v 229, v 230, v 231, v 232, v 233, v 234, v 235, v 236, v 237, v 238, v 239, v 240, v 241, v 242, v 243, v 244, v 245, v 246, v 247, v 248, v 249, v 250, v 251, v 252, v 253, v 254, v 255, v 256, v 257, v 258, v 259, v 260, v 261, v 262, v 263, v 264, v 265, v 266, v 267, v 268, v 269, v 270, v 271, v 272, v 273, v 274, v 275, v 276, v 277, v 278, v 279, v 280, v 281, v 282, v 283, v 284, v 285, v 286, v 287, v 288, v 289, v 290, v 291, v 292, v 293, v 294, v 295, v 296, v 297, v 298, v 299, v 300, v 301, v 302, v 303, v 304, v 305, v 306, v 307, v 308, v 309, v 310, v 311, v 312, v 313, v 314, v 315, v 316, v 317, v 318, v 319, v 320, v 321, v 322, v 323, v 324, v 325, v 326, v 327, v 328, v 329, v 330, v 331, v 332, v 333, v 334], []⟩

set_option maxRecDepth 100000 in
set_option maxHeartbeats 4000000 in
theorem i_first (bp : Nat) (s : ByteArray) (ov : Value) (last : Nat) (bt : Bool) (i : Nat) (w : World) (Q : Exit → Act → World → Prop) (h1 : ∀ a', FrP bp s ov last bt i none a' → Q .normal a' w)
    (a : Act) (ha : FrI bp s ov last bt i a) : Code.wp Tryz.prog (fst i1) Q a w := by
  have H1 := Lib.hid h1
  clear h1
  obtain ⟨v, rfl⟩ := ha
  conv => arg 2; whnf
  go_wp2_with fail
  exact H1.out _ ⟨v, rfl⟩

set_option maxRecDepth 100000 in
set_option maxHeartbeats 8000000 in
theorem sw_92 (bp : Nat) (s : ByteArray) (ov : Value) (last : Nat) (bt : Bool) (i : Nat) (p : PSt) (st : Bool) (w : World) (hp : PsAt w bp p) (hO : OptS w p st) (hi : i < s.size) (hs : s.size ≤ 1000000) (hc : s[i] = 92) (Q : Exit → Act → World → Prop)
    (h1 : ∀ a', FrP bp s ov last bt i (pOf st s[i]) a' → Q .normal a' w) (a : Act) (ha : FrP bp s ov last bt i none a) : Code.wp Tryz.prog iSW Q a w := by
  have hpo : pOf st s[i] = some 101 := by rw [hc]; rfl
  rw [hpo] at h1
  have H1 := Lib.hid h1
  have k0 : w.cell? ⟨bp, 0, none⟩ = some (.pointer (some ⟨p.parser, 0, none⟩)) := hp.parser
  have o1 := hO.k1.cell
  have o6 := hO.k6.cell
  have o7 := hO.k7.cell
  have o8 := hO.k8.cell
  have o9 := hO.k9.cell
  have w1 : (i : Int) < s.size := by omega
  have w2 : (0 : Int) ≤ i := by omega
  clear h1 hO hp
  obtain ⟨v, rfl⟩ := ha
  conv => arg 2; whnf
  have d0 : ((s[i].toNat : Int) == 92) = true := by rw [hc]; rfl
  clear hpo hc
  go_wp2_with fail
  exact H1.out _ ⟨(fun d => cond (Nat.ble 37 d && Nat.ble d 112) (cond (Nat.ble d 68) (cond (Nat.ble d 52) (List.getD [_, _, _, _, _, _, _, _, _, _, _, _, _, _, _, _] (d - 37) undef) (List.getD [_, _, _, _, _, _, _, _, _, _, _, _, _, _, _, _] (d - 53) undef)) (cond (Nat.ble d 84) (List.getD [_, _, _, _, _, _, _, _, _, _, _, _, _, _, _, _] (d - 69) undef) (cond (Nat.ble d 100) (List.getD [_, _, _, _, _, _, _, _, _, _, _, _, _, _, _, _] (d - 85) undef) (List.getD [_, _, _, _, _, _, _, _, _, _, _, _] (d - 101) undef)))) (v d)), rfl⟩

set_option maxRecDepth 100000 in
set_option maxHeartbeats 8000000 in
theorem sw_60 (bp : Nat) (s : ByteArray) (ov : Value) (last : Nat) (bt : Bool) (i : Nat) (p : PSt) (st : Bool) (w : World) (hp : PsAt w bp p) (hO : OptS w p st) (hi : i < s.size) (hs : s.size ≤ 1000000) (hc : s[i] = 60) (Q : Exit → Act → World → Prop)
    (h1 : ∀ a', FrP bp s ov last bt i (pOf st s[i]) a' → Q .normal a' w) (a : Act) (ha : FrP bp s ov last bt i none a) : Code.wp Tryz.prog iSW Q a w := by
  have hpo : pOf st s[i] = some 104 := by rw [hc]; rfl
  rw [hpo] at h1
  have H1 := Lib.hid h1
  have k0 : w.cell? ⟨bp, 0, none⟩ = some (.pointer (some ⟨p.parser, 0, none⟩)) := hp.parser
  have o1 := hO.k1.cell
  have o6 := hO.k6.cell
  have o7 := hO.k7.cell
  have o8 := hO.k8.cell
  have o9 := hO.k9.cell
  have w1 : (i : Int) < s.size := by omega
  have w2 : (0 : Int) ≤ i := by omega
  clear h1 hO hp
  obtain ⟨v, rfl⟩ := ha
  conv => arg 2; whnf
  have d0 : ((s[i].toNat : Int) == 92) = false := by rw [hc]; rfl
  have d1 : ((s[i].toNat : Int) == 96) = false := by rw [hc]; rfl
  have d2 : ((s[i].toNat : Int) == 60) = true := by rw [hc]; rfl
  clear hpo hc
  go_wp2_with fail
  exact H1.out _ ⟨(fun d => cond (Nat.ble 37 d && Nat.ble d 112) (cond (Nat.ble d 68) (cond (Nat.ble d 52) (List.getD [_, _, _, _, _, _, _, _, _, _, _, _, _, _, _, _] (d - 37) undef) (List.getD [_, _, _, _, _, _, _, _, _, _, _, _, _, _, _, _] (d - 53) undef)) (cond (Nat.ble d 84) (List.getD [_, _, _, _, _, _, _, _, _, _, _, _, _, _, _, _] (d - 69) undef) (cond (Nat.ble d 100) (List.getD [_, _, _, _, _, _, _, _, _, _, _, _, _, _, _, _] (d - 85) undef) (List.getD [_, _, _, _, _, _, _, _, _, _, _, _] (d - 101) undef)))) (v d)), rfl⟩

set_option maxRecDepth 100000 in
set_option maxHeartbeats 8000000 in
theorem sw_91 (bp : Nat) (s : ByteArray) (ov : Value) (last : Nat) (bt : Bool) (i : Nat) (p : PSt) (st : Bool) (w : World) (hp : PsAt w bp p) (hO : OptS w p st) (hi : i < s.size) (hs : s.size ≤ 1000000) (hc : s[i] = 91) (Q : Exit → Act → World → Prop)
    (h1 : ∀ a', FrP bp s ov last bt i (pOf st s[i]) a' → Q .normal a' w) (a : Act) (ha : FrP bp s ov last bt i none a) : Code.wp Tryz.prog iSW Q a w := by
  have hpo : pOf st s[i] = some 105 := by rw [hc]; rfl
  rw [hpo] at h1
  have H1 := Lib.hid h1
  have k0 : w.cell? ⟨bp, 0, none⟩ = some (.pointer (some ⟨p.parser, 0, none⟩)) := hp.parser
  have o1 := hO.k1.cell
  have o6 := hO.k6.cell
  have o7 := hO.k7.cell
  have o8 := hO.k8.cell
  have o9 := hO.k9.cell
  have w1 : (i : Int) < s.size := by omega
  have w2 : (0 : Int) ≤ i := by omega
  clear h1 hO hp
  obtain ⟨v, rfl⟩ := ha
  conv => arg 2; whnf
  have d0 : ((s[i].toNat : Int) == 92) = false := by rw [hc]; rfl
  have d1 : ((s[i].toNat : Int) == 96) = false := by rw [hc]; rfl
  have d2 : ((s[i].toNat : Int) == 60) = false := by rw [hc]; rfl
  have d3 : ((s[i].toNat : Int) == 91) = true := by rw [hc]; rfl
  clear hpo hc
  go_wp2_with fail
  exact H1.out _ ⟨(fun d => cond (Nat.ble 37 d && Nat.ble d 112) (cond (Nat.ble d 68) (cond (Nat.ble d 52) (List.getD [_, _, _, _, _, _, _, _, _, _, _, _, _, _, _, _] (d - 37) undef) (List.getD [_, _, _, _, _, _, _, _, _, _, _, _, _, _, _, _] (d - 53) undef)) (cond (Nat.ble d 84) (List.getD [_, _, _, _, _, _, _, _, _, _, _, _, _, _, _, _] (d - 69) undef) (cond (Nat.ble d 100) (List.getD [_, _, _, _, _, _, _, _, _, _, _, _, _, _, _, _] (d - 85) undef) (List.getD [_, _, _, _, _, _, _, _, _, _, _, _] (d - 101) undef)))) (v d)), rfl⟩

set_option maxRecDepth 100000 in
set_option maxHeartbeats 8000000 in
theorem sw_33 (bp : Nat) (s : ByteArray) (ov : Value) (last : Nat) (bt : Bool) (i : Nat) (p : PSt) (st : Bool) (w : World) (hp : PsAt w bp p) (hO : OptS w p st) (hi : i < s.size) (hs : s.size ≤ 1000000) (hc : s[i] = 33) (Q : Exit → Act → World → Prop)
    (h1 : ∀ a', FrP bp s ov last bt i (pOf st s[i]) a' → Q .normal a' w) (a : Act) (ha : FrP bp s ov last bt i none a) : Code.wp Tryz.prog iSW Q a w := by
  have hpo : pOf st s[i] = some 106 := by rw [hc]; rfl
  rw [hpo] at h1
  have H1 := Lib.hid h1
  have k0 : w.cell? ⟨bp, 0, none⟩ = some (.pointer (some ⟨p.parser, 0, none⟩)) := hp.parser
  have o1 := hO.k1.cell
  have o6 := hO.k6.cell
  have o7 := hO.k7.cell
  have o8 := hO.k8.cell
  have o9 := hO.k9.cell
  have w1 : (i : Int) < s.size := by omega
  have w2 : (0 : Int) ≤ i := by omega
  clear h1 hO hp
  obtain ⟨v, rfl⟩ := ha
  conv => arg 2; whnf
  have d0 : ((s[i].toNat : Int) == 92) = false := by rw [hc]; rfl
  have d1 : ((s[i].toNat : Int) == 96) = false := by rw [hc]; rfl
  have d2 : ((s[i].toNat : Int) == 60) = false := by rw [hc]; rfl
  have d3 : ((s[i].toNat : Int) == 91) = false := by rw [hc]; rfl
  have d4 : ((s[i].toNat : Int) == 33) = true := by rw [hc]; rfl
  clear hpo hc
  go_wp2_with fail
  exact H1.out _ ⟨(fun d => cond (Nat.ble 37 d && Nat.ble d 112) (cond (Nat.ble d 68) (cond (Nat.ble d 52) (List.getD [_, _, _, _, _, _, _, _, _, _, _, _, _, _, _, _] (d - 37) undef) (List.getD [_, _, _, _, _, _, _, _, _, _, _, _, _, _, _, _] (d - 53) undef)) (cond (Nat.ble d 84) (List.getD [_, _, _, _, _, _, _, _, _, _, _, _, _, _, _, _] (d - 69) undef) (cond (Nat.ble d 100) (List.getD [_, _, _, _, _, _, _, _, _, _, _, _, _, _, _, _] (d - 85) undef) (List.getD [_, _, _, _, _, _, _, _, _, _, _, _] (d - 101) undef)))) (v d)), rfl⟩

set_option maxRecDepth 100000 in
set_option maxHeartbeats 8000000 in
theorem sw_95 (bp : Nat) (s : ByteArray) (ov : Value) (last : Nat) (bt : Bool) (i : Nat) (p : PSt) (st : Bool) (w : World) (hp : PsAt w bp p) (hO : OptS w p st) (hi : i < s.size) (hs : s.size ≤ 1000000) (hc : s[i] = 95) (Q : Exit → Act → World → Prop)
    (h1 : ∀ a', FrP bp s ov last bt i (pOf st s[i]) a' → Q .normal a' w) (a : Act) (ha : FrP bp s ov last bt i none a) : Code.wp Tryz.prog iSW Q a w := by
  have hpo : pOf st s[i] = some 107 := by rw [hc]; rfl
  rw [hpo] at h1
  have H1 := Lib.hid h1
  have k0 : w.cell? ⟨bp, 0, none⟩ = some (.pointer (some ⟨p.parser, 0, none⟩)) := hp.parser
  have o1 := hO.k1.cell
  have o6 := hO.k6.cell
  have o7 := hO.k7.cell
  have o8 := hO.k8.cell
  have o9 := hO.k9.cell
  have w1 : (i : Int) < s.size := by omega
  have w2 : (0 : Int) ≤ i := by omega
  clear h1 hO hp
  obtain ⟨v, rfl⟩ := ha
  conv => arg 2; whnf
  have d0 : ((s[i].toNat : Int) == 92) = false := by rw [hc]; rfl
  have d1 : ((s[i].toNat : Int) == 96) = false := by rw [hc]; rfl
  have d2 : ((s[i].toNat : Int) == 60) = false := by rw [hc]; rfl
  have d3 : ((s[i].toNat : Int) == 91) = false := by rw [hc]; rfl
  have d4 : ((s[i].toNat : Int) == 33) = false := by rw [hc]; rfl
  have d5 : ((s[i].toNat : Int) == 95) = true := by rw [hc]; rfl
  clear hpo hc
  go_wp2_with fail
  exact H1.out _ ⟨(fun d => cond (Nat.ble 37 d && Nat.ble d 112) (cond (Nat.ble d 68) (cond (Nat.ble d 52) (List.getD [_, _, _, _, _, _, _, _, _, _, _, _, _, _, _, _] (d - 37) undef) (List.getD [_, _, _, _, _, _, _, _, _, _, _, _, _, _, _, _] (d - 53) undef)) (cond (Nat.ble d 84) (List.getD [_, _, _, _, _, _, _, _, _, _, _, _, _, _, _, _] (d - 69) undef) (cond (Nat.ble d 100) (List.getD [_, _, _, _, _, _, _, _, _, _, _, _, _, _, _, _] (d - 85) undef) (List.getD [_, _, _, _, _, _, _, _, _, _, _, _] (d - 101) undef)))) (v d)), rfl⟩

set_option maxRecDepth 100000 in
set_option maxHeartbeats 8000000 in
theorem sw_42 (bp : Nat) (s : ByteArray) (ov : Value) (last : Nat) (bt : Bool) (i : Nat) (p : PSt) (st : Bool) (w : World) (hp : PsAt w bp p) (hO : OptS w p st) (hi : i < s.size) (hs : s.size ≤ 1000000) (hc : s[i] = 42) (Q : Exit → Act → World → Prop)
    (h1 : ∀ a', FrP bp s ov last bt i (pOf st s[i]) a' → Q .normal a' w) (a : Act) (ha : FrP bp s ov last bt i none a) : Code.wp Tryz.prog iSW Q a w := by
  have hpo : pOf st s[i] = some 107 := by rw [hc]; rfl
  rw [hpo] at h1
  have H1 := Lib.hid h1
  have k0 : w.cell? ⟨bp, 0, none⟩ = some (.pointer (some ⟨p.parser, 0, none⟩)) := hp.parser
  have o1 := hO.k1.cell
  have o6 := hO.k6.cell
  have o7 := hO.k7.cell
  have o8 := hO.k8.cell
  have o9 := hO.k9.cell
  have w1 : (i : Int) < s.size := by omega
  have w2 : (0 : Int) ≤ i := by omega
  clear h1 hO hp
  obtain ⟨v, rfl⟩ := ha
  conv => arg 2; whnf
  have d0 : ((s[i].toNat : Int) == 92) = false := by rw [hc]; rfl
  have d1 : ((s[i].toNat : Int) == 96) = false := by rw [hc]; rfl
  have d2 : ((s[i].toNat : Int) == 60) = false := by rw [hc]; rfl
  have d3 : ((s[i].toNat : Int) == 91) = false := by rw [hc]; rfl
  have d4 : ((s[i].toNat : Int) == 33) = false := by rw [hc]; rfl
  have d5 : ((s[i].toNat : Int) == 95) = false := by rw [hc]; rfl
  have d6 : ((s[i].toNat : Int) == 42) = true := by rw [hc]; rfl
  clear hpo hc
  go_wp2_with fail
  exact H1.out _ ⟨(fun d => cond (Nat.ble 37 d && Nat.ble d 112) (cond (Nat.ble d 68) (cond (Nat.ble d 52) (List.getD [_, _, _, _, _, _, _, _, _, _, _, _, _, _, _, _] (d - 37) undef) (List.getD [_, _, _, _, _, _, _, _, _, _, _, _, _, _, _, _] (d - 53) undef)) (cond (Nat.ble d 84) (List.getD [_, _, _, _, _, _, _, _, _, _, _, _, _, _, _, _] (d - 69) undef) (cond (Nat.ble d 100) (List.getD [_, _, _, _, _, _, _, _, _, _, _, _, _, _, _, _] (d - 85) undef) (List.getD [_, _, _, _, _, _, _, _, _, _, _, _] (d - 101) undef)))) (v d)), rfl⟩

set_option maxRecDepth 100000 in
set_option maxHeartbeats 8000000 in
theorem sw_46 (bp : Nat) (s : ByteArray) (ov : Value) (last : Nat) (bt : Bool) (i : Nat) (p : PSt) (st : Bool) (w : World) (hp : PsAt w bp p) (hO : OptS w p st) (hi : i < s.size) (hs : s.size ≤ 1000000) (hc : s[i] = 46) (Q : Exit → Act → World → Prop)
    (h1 : ∀ a', FrP bp s ov last bt i (pOf st s[i]) a' → Q .normal a' w) (a : Act) (ha : FrP bp s ov last bt i none a) : Code.wp Tryz.prog iSW Q a w := by
  have hpo : pOf st s[i] = none := by rw [hc]; rfl
  rw [hpo] at h1
  have H1 := Lib.hid h1
  have k0 : w.cell? ⟨bp, 0, none⟩ = some (.pointer (some ⟨p.parser, 0, none⟩)) := hp.parser
  have o1 := hO.k1.cell
  have o6 := hO.k6.cell
  have o7 := hO.k7.cell
  have o8 := hO.k8.cell
  have o9 := hO.k9.cell
  have w1 : (i : Int) < s.size := by omega
  have w2 : (0 : Int) ≤ i := by omega
  clear h1 hO hp
  obtain ⟨v, rfl⟩ := ha
  conv => arg 2; whnf
  have d0 : ((s[i].toNat : Int) == 92) = false := by rw [hc]; rfl
  have d1 : ((s[i].toNat : Int) == 96) = false := by rw [hc]; rfl
  have d2 : ((s[i].toNat : Int) == 60) = false := by rw [hc]; rfl
  have d3 : ((s[i].toNat : Int) == 91) = false := by rw [hc]; rfl
  have d4 : ((s[i].toNat : Int) == 33) = false := by rw [hc]; rfl
  have d5 : ((s[i].toNat : Int) == 95) = false := by rw [hc]; rfl
  have d6 : ((s[i].toNat : Int) == 42) = false := by rw [hc]; rfl
  have d7 : ((s[i].toNat : Int) == 46) = true := by rw [hc]; rfl
  clear hpo hc
  go_wp2_with fail
  exact H1.out _ ⟨(fun d => cond (Nat.ble 37 d && Nat.ble d 112) (cond (Nat.ble d 68) (cond (Nat.ble d 52) (List.getD [_, _, _, _, _, _, _, _, _, _, _, _, _, _, _, _] (d - 37) undef) (List.getD [_, _, _, _, _, _, _, _, _, _, _, _, _, _, _, _] (d - 53) undef)) (cond (Nat.ble d 84) (List.getD [_, _, _, _, _, _, _, _, _, _, _, _, _, _, _, _] (d - 69) undef) (cond (Nat.ble d 100) (List.getD [_, _, _, _, _, _, _, _, _, _, _, _, _, _, _, _] (d - 85) undef) (List.getD [_, _, _, _, _, _, _, _, _, _, _, _] (d - 101) undef)))) (v d)), rfl⟩

set_option maxRecDepth 100000 in
set_option maxHeartbeats 8000000 in
theorem sw_45 (bp : Nat) (s : ByteArray) (ov : Value) (last : Nat) (bt : Bool) (i : Nat) (p : PSt) (st : Bool) (w : World) (hp : PsAt w bp p) (hO : OptS w p st) (hi : i < s.size) (hs : s.size ≤ 1000000) (hc : s[i] = 45) (Q : Exit → Act → World → Prop)
    (h1 : ∀ a', FrP bp s ov last bt i (pOf st s[i]) a' → Q .normal a' w) (a : Act) (ha : FrP bp s ov last bt i none a) : Code.wp Tryz.prog iSW Q a w := by
  have hpo : pOf st s[i] = none := by rw [hc]; rfl
  rw [hpo] at h1
  have H1 := Lib.hid h1
  have k0 : w.cell? ⟨bp, 0, none⟩ = some (.pointer (some ⟨p.parser, 0, none⟩)) := hp.parser
  have o1 := hO.k1.cell
  have o6 := hO.k6.cell
  have o7 := hO.k7.cell
  have o8 := hO.k8.cell
  have o9 := hO.k9.cell
  have w1 : (i : Int) < s.size := by omega
  have w2 : (0 : Int) ≤ i := by omega
  clear h1 hO hp
  obtain ⟨v, rfl⟩ := ha
  conv => arg 2; whnf
  have d0 : ((s[i].toNat : Int) == 92) = false := by rw [hc]; rfl
  have d1 : ((s[i].toNat : Int) == 96) = false := by rw [hc]; rfl
  have d2 : ((s[i].toNat : Int) == 60) = false := by rw [hc]; rfl
  have d3 : ((s[i].toNat : Int) == 91) = false := by rw [hc]; rfl
  have d4 : ((s[i].toNat : Int) == 33) = false := by rw [hc]; rfl
  have d5 : ((s[i].toNat : Int) == 95) = false := by rw [hc]; rfl
  have d6 : ((s[i].toNat : Int) == 42) = false := by rw [hc]; rfl
  have d7 : ((s[i].toNat : Int) == 46) = false := by rw [hc]; rfl
  have d8 : ((s[i].toNat : Int) == 45) = true := by rw [hc]; rfl
  clear hpo hc
  go_wp2_with fail
  exact H1.out _ ⟨(fun d => cond (Nat.ble 37 d && Nat.ble d 112) (cond (Nat.ble d 68) (cond (Nat.ble d 52) (List.getD [_, _, _, _, _, _, _, _, _, _, _, _, _, _, _, _] (d - 37) undef) (List.getD [_, _, _, _, _, _, _, _, _, _, _, _, _, _, _, _] (d - 53) undef)) (cond (Nat.ble d 84) (List.getD [_, _, _, _, _, _, _, _, _, _, _, _, _, _, _, _] (d - 69) undef) (cond (Nat.ble d 100) (List.getD [_, _, _, _, _, _, _, _, _, _, _, _, _, _, _, _] (d - 85) undef) (List.getD [_, _, _, _, _, _, _, _, _, _, _, _] (d - 101) undef)))) (v d)), rfl⟩

set_option maxRecDepth 100000 in
set_option maxHeartbeats 8000000 in
theorem sw_34 (bp : Nat) (s : ByteArray) (ov : Value) (last : Nat) (bt : Bool) (i : Nat) (p : PSt) (st : Bool) (w : World) (hp : PsAt w bp p) (hO : OptS w p st) (hi : i < s.size) (hs : s.size ≤ 1000000) (hc : s[i] = 34) (Q : Exit → Act → World → Prop)
    (h1 : ∀ a', FrP bp s ov last bt i (pOf st s[i]) a' → Q .normal a' w) (a : Act) (ha : FrP bp s ov last bt i none a) : Code.wp Tryz.prog iSW Q a w := by
  have hpo : pOf st s[i] = none := by rw [hc]; rfl
  rw [hpo] at h1
  have H1 := Lib.hid h1
  have k0 : w.cell? ⟨bp, 0, none⟩ = some (.pointer (some ⟨p.parser, 0, none⟩)) := hp.parser
  have o1 := hO.k1.cell
  have o6 := hO.k6.cell
  have o7 := hO.k7.cell
  have o8 := hO.k8.cell
  have o9 := hO.k9.cell
  have w1 : (i : Int) < s.size := by omega
  have w2 : (0 : Int) ≤ i := by omega
  clear h1 hO hp
  obtain ⟨v, rfl⟩ := ha
  conv => arg 2; whnf
  have d0 : ((s[i].toNat : Int) == 92) = false := by rw [hc]; rfl
  have d1 : ((s[i].toNat : Int) == 96) = false := by rw [hc]; rfl
  have d2 : ((s[i].toNat : Int) == 60) = false := by rw [hc]; rfl
  have d3 : ((s[i].toNat : Int) == 91) = false := by rw [hc]; rfl
  have d4 : ((s[i].toNat : Int) == 33) = false := by rw [hc]; rfl
  have d5 : ((s[i].toNat : Int) == 95) = false := by rw [hc]; rfl
  have d6 : ((s[i].toNat : Int) == 42) = false := by rw [hc]; rfl
  have d7 : ((s[i].toNat : Int) == 46) = false := by rw [hc]; rfl
  have d8 : ((s[i].toNat : Int) == 45) = false := by rw [hc]; rfl
  have d9 : ((s[i].toNat : Int) == 34) = true := by rw [hc]; rfl
  clear hpo hc
  go_wp2_with fail
  exact H1.out _ ⟨(fun d => cond (Nat.ble 37 d && Nat.ble d 112) (cond (Nat.ble d 68) (cond (Nat.ble d 52) (List.getD [_, _, _, _, _, _, _, _, _, _, _, _, _, _, _, _] (d - 37) undef) (List.getD [_, _, _, _, _, _, _, _, _, _, _, _, _, _, _, _] (d - 53) undef)) (cond (Nat.ble d 84) (List.getD [_, _, _, _, _, _, _, _, _, _, _, _, _, _, _, _] (d - 69) undef) (cond (Nat.ble d 100) (List.getD [_, _, _, _, _, _, _, _, _, _, _, _, _, _, _, _] (d - 85) undef) (List.getD [_, _, _, _, _, _, _, _, _, _, _, _] (d - 101) undef)))) (v d)), rfl⟩

set_option maxRecDepth 100000 in
set_option maxHeartbeats 8000000 in
theorem sw_39 (bp : Nat) (s : ByteArray) (ov : Value) (last : Nat) (bt : Bool) (i : Nat) (p : PSt) (st : Bool) (w : World) (hp : PsAt w bp p) (hO : OptS w p st) (hi : i < s.size) (hs : s.size ≤ 1000000) (hc : s[i] = 39) (Q : Exit → Act → World → Prop)
    (h1 : ∀ a', FrP bp s ov last bt i (pOf st s[i]) a' → Q .normal a' w) (a : Act) (ha : FrP bp s ov last bt i none a) : Code.wp Tryz.prog iSW Q a w := by
  have hpo : pOf st s[i] = none := by rw [hc]; rfl
  rw [hpo] at h1
  have H1 := Lib.hid h1
  have k0 : w.cell? ⟨bp, 0, none⟩ = some (.pointer (some ⟨p.parser, 0, none⟩)) := hp.parser
  have o1 := hO.k1.cell
  have o6 := hO.k6.cell
  have o7 := hO.k7.cell
  have o8 := hO.k8.cell
  have o9 := hO.k9.cell
  have w1 : (i : Int) < s.size := by omega
  have w2 : (0 : Int) ≤ i := by omega
  clear h1 hO hp
  obtain ⟨v, rfl⟩ := ha
  conv => arg 2; whnf
  have d0 : ((s[i].toNat : Int) == 92) = false := by rw [hc]; rfl
  have d1 : ((s[i].toNat : Int) == 96) = false := by rw [hc]; rfl
  have d2 : ((s[i].toNat : Int) == 60) = false := by rw [hc]; rfl
  have d3 : ((s[i].toNat : Int) == 91) = false := by rw [hc]; rfl
  have d4 : ((s[i].toNat : Int) == 33) = false := by rw [hc]; rfl
  have d5 : ((s[i].toNat : Int) == 95) = false := by rw [hc]; rfl
  have d6 : ((s[i].toNat : Int) == 42) = false := by rw [hc]; rfl
  have d7 : ((s[i].toNat : Int) == 46) = false := by rw [hc]; rfl
  have d8 : ((s[i].toNat : Int) == 45) = false := by rw [hc]; rfl
  have d9 : ((s[i].toNat : Int) == 34) = false := by rw [hc]; rfl
  have d10 : ((s[i].toNat : Int) == 39) = true := by rw [hc]; rfl
  clear hpo hc
  go_wp2_with fail
  exact H1.out _ ⟨(fun d => cond (Nat.ble 37 d && Nat.ble d 112) (cond (Nat.ble d 68) (cond (Nat.ble d 52) (List.getD [_, _, _, _, _, _, _, _, _, _, _, _, _, _, _, _] (d - 37) undef) (List.getD [_, _, _, _, _, _, _, _, _, _, _, _, _, _, _, _] (d - 53) undef)) (cond (Nat.ble d 84) (List.getD [_, _, _, _, _, _, _, _, _, _, _, _, _, _, _, _] (d - 69) undef) (cond (Nat.ble d 100) (List.getD [_, _, _, _, _, _, _, _, _, _, _, _, _, _, _, _] (d - 85) undef) (List.getD [_, _, _, _, _, _, _, _, _, _, _, _] (d - 101) undef)))) (v d)), rfl⟩

set_option maxRecDepth 100000 in
set_option maxHeartbeats 8000000 in
theorem sw_126 (bp : Nat) (s : ByteArray) (ov : Value) (last : Nat) (bt : Bool) (i : Nat) (p : PSt) (st : Bool) (w : World) (hp : PsAt w bp p) (hO : OptS w p st) (hi : i < s.size) (hs : s.size ≤ 1000000) (hc : s[i] = 126) (Q : Exit → Act → World → Prop)
    (h1 : ∀ a', FrP bp s ov last bt i (pOf st s[i]) a' → Q .normal a' w) (a : Act) (ha : FrP bp s ov last bt i none a) : Code.wp Tryz.prog iSW Q a w := by
  cases st with
  | false =>
    have hpo : pOf false s[i] = none := by rw [hc]; rfl
    rw [hpo] at h1
    have H1 := Lib.hid h1
    have k0 : w.cell? ⟨bp, 0, none⟩ = some (.pointer (some ⟨p.parser, 0, none⟩)) := hp.parser
    have o1 := hO.k1.cell
    have o6 := hO.k6.cell
    have o7 := hO.k7.cell
    have o8 := hO.k8.cell
    have o9 := hO.k9.cell
    have w1 : (i : Int) < s.size := by omega
    have w2 : (0 : Int) ≤ i := by omega
    clear h1 hO hp
    obtain ⟨v, rfl⟩ := ha
    conv => arg 2; whnf
    have d0 : ((s[i].toNat : Int) == 92) = false := by rw [hc]; rfl
    have d1 : ((s[i].toNat : Int) == 96) = false := by rw [hc]; rfl
    have d2 : ((s[i].toNat : Int) == 60) = false := by rw [hc]; rfl
    have d3 : ((s[i].toNat : Int) == 91) = false := by rw [hc]; rfl
    have d4 : ((s[i].toNat : Int) == 33) = false := by rw [hc]; rfl
    have d5 : ((s[i].toNat : Int) == 95) = false := by rw [hc]; rfl
    have d6 : ((s[i].toNat : Int) == 42) = false := by rw [hc]; rfl
    have d7 : ((s[i].toNat : Int) == 46) = false := by rw [hc]; rfl
    have d8 : ((s[i].toNat : Int) == 45) = false := by rw [hc]; rfl
    have d9 : ((s[i].toNat : Int) == 34) = false := by rw [hc]; rfl
    have d10 : ((s[i].toNat : Int) == 39) = false := by rw [hc]; rfl
    have d11 : ((s[i].toNat : Int) == 126) = true := by rw [hc]; rfl
    clear hpo hc
    go_wp2_with fail
    exact H1.out _ ⟨(fun d => cond (Nat.ble 37 d && Nat.ble d 112) (cond (Nat.ble d 68) (cond (Nat.ble d 52) (List.getD [_, _, _, _, _, _, _, _, _, _, _, _, _, _, _, _] (d - 37) undef) (List.getD [_, _, _, _, _, _, _, _, _, _, _, _, _, _, _, _] (d - 53) undef)) (cond (Nat.ble d 84) (List.getD [_, _, _, _, _, _, _, _, _, _, _, _, _, _, _, _] (d - 69) undef) (cond (Nat.ble d 100) (List.getD [_, _, _, _, _, _, _, _, _, _, _, _, _, _, _, _] (d - 85) undef) (List.getD [_, _, _, _, _, _, _, _, _, _, _, _] (d - 101) undef)))) (v d)), rfl⟩
  | true =>
    have hpo : pOf true s[i] = some 107 := by rw [hc]; rfl
    rw [hpo] at h1
    have H1 := Lib.hid h1
    have k0 : w.cell? ⟨bp, 0, none⟩ = some (.pointer (some ⟨p.parser, 0, none⟩)) := hp.parser
    have o1 := hO.k1.cell
    have o6 := hO.k6.cell
    have o7 := hO.k7.cell
    have o8 := hO.k8.cell
    have o9 := hO.k9.cell
    have w1 : (i : Int) < s.size := by omega
    have w2 : (0 : Int) ≤ i := by omega
    clear h1 hO hp
    obtain ⟨v, rfl⟩ := ha
    conv => arg 2; whnf
    have d0 : ((s[i].toNat : Int) == 92) = false := by rw [hc]; rfl
    have d1 : ((s[i].toNat : Int) == 96) = false := by rw [hc]; rfl
    have d2 : ((s[i].toNat : Int) == 60) = false := by rw [hc]; rfl
    have d3 : ((s[i].toNat : Int) == 91) = false := by rw [hc]; rfl
    have d4 : ((s[i].toNat : Int) == 33) = false := by rw [hc]; rfl
    have d5 : ((s[i].toNat : Int) == 95) = false := by rw [hc]; rfl
    have d6 : ((s[i].toNat : Int) == 42) = false := by rw [hc]; rfl
    have d7 : ((s[i].toNat : Int) == 46) = false := by rw [hc]; rfl
    have d8 : ((s[i].toNat : Int) == 45) = false := by rw [hc]; rfl
    have d9 : ((s[i].toNat : Int) == 34) = false := by rw [hc]; rfl
    have d10 : ((s[i].toNat : Int) == 39) = false := by rw [hc]; rfl
    have d11 : ((s[i].toNat : Int) == 126) = true := by rw [hc]; rfl
    clear hpo hc
    go_wp2_with fail
    exact H1.out _ ⟨(fun d => cond (Nat.ble 37 d && Nat.ble d 112) (cond (Nat.ble d 68) (cond (Nat.ble d 52) (List.getD [_, _, _, _, _, _, _, _, _, _, _, _, _, _, _, _] (d - 37) undef) (List.getD [_, _, _, _, _, _, _, _, _, _, _, _, _, _, _, _] (d - 53) undef)) (cond (Nat.ble d 84) (List.getD [_, _, _, _, _, _, _, _, _, _, _, _, _, _, _, _] (d - 69) undef) (cond (Nat.ble d 100) (List.getD [_, _, _, _, _, _, _, _, _, _, _, _, _, _, _, _] (d - 85) undef) (List.getD [_, _, _, _, _, _, _, _, _, _, _, _] (d - 101) undef)))) (v d)), rfl⟩

set_option maxRecDepth 100000 in
set_option maxHeartbeats 8000000 in
theorem sw_10 (bp : Nat) (s : ByteArray) (ov : Value) (last : Nat) (bt : Bool) (i : Nat) (p : PSt) (st : Bool) (w : World) (hp : PsAt w bp p) (hO : OptS w p st) (hi : i < s.size) (hs : s.size ≤ 1000000) (hc : s[i] = 10) (Q : Exit → Act → World → Prop)
    (h1 : ∀ a', FrP bp s ov last bt i (pOf st s[i]) a' → Q .normal a' w) (a : Act) (ha : FrP bp s ov last bt i none a) : Code.wp Tryz.prog iSW Q a w := by
  have hpo : pOf st s[i] = some 110 := by rw [hc]; rfl
  rw [hpo] at h1
  have H1 := Lib.hid h1
  have k0 : w.cell? ⟨bp, 0, none⟩ = some (.pointer (some ⟨p.parser, 0, none⟩)) := hp.parser
  have o1 := hO.k1.cell
  have o6 := hO.k6.cell
  have o7 := hO.k7.cell
  have o8 := hO.k8.cell
  have o9 := hO.k9.cell
  have w1 : (i : Int) < s.size := by omega
  have w2 : (0 : Int) ≤ i := by omega
  clear h1 hO hp
  obtain ⟨v, rfl⟩ := ha
  conv => arg 2; whnf
  have d0 : ((s[i].toNat : Int) == 92) = false := by rw [hc]; rfl
  have d1 : ((s[i].toNat : Int) == 96) = false := by rw [hc]; rfl
  have d2 : ((s[i].toNat : Int) == 60) = false := by rw [hc]; rfl
  have d3 : ((s[i].toNat : Int) == 91) = false := by rw [hc]; rfl
  have d4 : ((s[i].toNat : Int) == 33) = false := by rw [hc]; rfl
  have d5 : ((s[i].toNat : Int) == 95) = false := by rw [hc]; rfl
  have d6 : ((s[i].toNat : Int) == 42) = false := by rw [hc]; rfl
  have d7 : ((s[i].toNat : Int) == 46) = false := by rw [hc]; rfl
  have d8 : ((s[i].toNat : Int) == 45) = false := by rw [hc]; rfl
  have d9 : ((s[i].toNat : Int) == 34) = false := by rw [hc]; rfl
  have d10 : ((s[i].toNat : Int) == 39) = false := by rw [hc]; rfl
  have d11 : ((s[i].toNat : Int) == 126) = false := by rw [hc]; rfl
  have d12 : ((s[i].toNat : Int) == 10) = true := by rw [hc]; rfl
  clear hpo hc
  go_wp2_with fail
  exact H1.out _ ⟨(fun d => cond (Nat.ble 37 d && Nat.ble d 112) (cond (Nat.ble d 68) (cond (Nat.ble d 52) (List.getD [_, _, _, _, _, _, _, _, _, _, _, _, _, _, _, _] (d - 37) undef) (List.getD [_, _, _, _, _, _, _, _, _, _, _, _, _, _, _, _] (d - 53) undef)) (cond (Nat.ble d 84) (List.getD [_, _, _, _, _, _, _, _, _, _, _, _, _, _, _, _] (d - 69) undef) (cond (Nat.ble d 100) (List.getD [_, _, _, _, _, _, _, _, _, _, _, _, _, _, _, _] (d - 85) undef) (List.getD [_, _, _, _, _, _, _, _, _, _, _, _] (d - 101) undef)))) (v d)), rfl⟩

set_option maxRecDepth 100000 in
set_option maxHeartbeats 8000000 in
theorem sw_38 (bp : Nat) (s : ByteArray) (ov : Value) (last : Nat) (bt : Bool) (i : Nat) (p : PSt) (st : Bool) (w : World) (hp : PsAt w bp p) (hO : OptS w p st) (hi : i < s.size) (hs : s.size ≤ 1000000) (hc : s[i] = 38) (Q : Exit → Act → World → Prop)
    (h1 : ∀ a', FrP bp s ov last bt i (pOf st s[i]) a' → Q .normal a' w) (a : Act) (ha : FrP bp s ov last bt i none a) : Code.wp Tryz.prog iSW Q a w := by
  have hpo : pOf st s[i] = some 111 := by rw [hc]; rfl
  rw [hpo] at h1
  have H1 := Lib.hid h1
  have k0 : w.cell? ⟨bp, 0, none⟩ = some (.pointer (some ⟨p.parser, 0, none⟩)) := hp.parser
  have o1 := hO.k1.cell
  have o6 := hO.k6.cell
  have o7 := hO.k7.cell
  have o8 := hO.k8.cell
  have o9 := hO.k9.cell
  have w1 : (i : Int) < s.size := by omega
  have w2 : (0 : Int) ≤ i := by omega
  clear h1 hO hp
  obtain ⟨v, rfl⟩ := ha
  conv => arg 2; whnf
  have d0 : ((s[i].toNat : Int) == 92) = false := by rw [hc]; rfl
  have d1 : ((s[i].toNat : Int) == 96) = false := by rw [hc]; rfl
  have d2 : ((s[i].toNat : Int) == 60) = false := by rw [hc]; rfl
  have d3 : ((s[i].toNat : Int) == 91) = false := by rw [hc]; rfl
  have d4 : ((s[i].toNat : Int) == 33) = false := by rw [hc]; rfl
  have d5 : ((s[i].toNat : Int) == 95) = false := by rw [hc]; rfl
  have d6 : ((s[i].toNat : Int) == 42) = false := by rw [hc]; rfl
  have d7 : ((s[i].toNat : Int) == 46) = false := by rw [hc]; rfl
  have d8 : ((s[i].toNat : Int) == 45) = false := by rw [hc]; rfl
  have d9 : ((s[i].toNat : Int) == 34) = false := by rw [hc]; rfl
  have d10 : ((s[i].toNat : Int) == 39) = false := by rw [hc]; rfl
  have d11 : ((s[i].toNat : Int) == 126) = false := by rw [hc]; rfl
  have d12 : ((s[i].toNat : Int) == 10) = false := by rw [hc]; rfl
  have d13 : ((s[i].toNat : Int) == 38) = true := by rw [hc]; rfl
  clear hpo hc
  go_wp2_with fail
  exact H1.out _ ⟨(fun d => cond (Nat.ble 37 d && Nat.ble d 112) (cond (Nat.ble d 68) (cond (Nat.ble d 52) (List.getD [_, _, _, _, _, _, _, _, _, _, _, _, _, _, _, _] (d - 37) undef) (List.getD [_, _, _, _, _, _, _, _, _, _, _, _, _, _, _, _] (d - 53) undef)) (cond (Nat.ble d 84) (List.getD [_, _, _, _, _, _, _, _, _, _, _, _, _, _, _, _] (d - 69) undef) (cond (Nat.ble d 100) (List.getD [_, _, _, _, _, _, _, _, _, _, _, _, _, _, _, _] (d - 85) undef) (List.getD [_, _, _, _, _, _, _, _, _, _, _, _] (d - 101) undef)))) (v d)), rfl⟩

set_option maxRecDepth 100000 in
set_option maxHeartbeats 8000000 in
theorem sw_58 (bp : Nat) (s : ByteArray) (ov : Value) (last : Nat) (bt : Bool) (i : Nat) (p : PSt) (st : Bool) (w : World) (hp : PsAt w bp p) (hO : OptS w p st) (hi : i < s.size) (hs : s.size ≤ 1000000) (hc : s[i] = 58) (Q : Exit → Act → World → Prop)
    (h1 : ∀ a', FrP bp s ov last bt i (pOf st s[i]) a' → Q .normal a' w) (a : Act) (ha : FrP bp s ov last bt i none a) : Code.wp Tryz.prog iSW Q a w := by
  have hpo : pOf st s[i] = none := by rw [hc]; rfl
  rw [hpo] at h1
  have H1 := Lib.hid h1
  have k0 : w.cell? ⟨bp, 0, none⟩ = some (.pointer (some ⟨p.parser, 0, none⟩)) := hp.parser
  have o1 := hO.k1.cell
  have o6 := hO.k6.cell
  have o7 := hO.k7.cell
  have o8 := hO.k8.cell
  have o9 := hO.k9.cell
  have w1 : (i : Int) < s.size := by omega
  have w2 : (0 : Int) ≤ i := by omega
  clear h1 hO hp
  obtain ⟨v, rfl⟩ := ha
  conv => arg 2; whnf
  have d0 : ((s[i].toNat : Int) == 92) = false := by rw [hc]; rfl
  have d1 : ((s[i].toNat : Int) == 96) = false := by rw [hc]; rfl
  have d2 : ((s[i].toNat : Int) == 60) = false := by rw [hc]; rfl
  have d3 : ((s[i].toNat : Int) == 91) = false := by rw [hc]; rfl
  have d4 : ((s[i].toNat : Int) == 33) = false := by rw [hc]; rfl
  have d5 : ((s[i].toNat : Int) == 95) = false := by rw [hc]; rfl
  have d6 : ((s[i].toNat : Int) == 42) = false := by rw [hc]; rfl
  have d7 : ((s[i].toNat : Int) == 46) = false := by rw [hc]; rfl
  have d8 : ((s[i].toNat : Int) == 45) = false := by rw [hc]; rfl
  have d9 : ((s[i].toNat : Int) == 34) = false := by rw [hc]; rfl
  have d10 : ((s[i].toNat : Int) == 39) = false := by rw [hc]; rfl
  have d11 : ((s[i].toNat : Int) == 126) = false := by rw [hc]; rfl
  have d12 : ((s[i].toNat : Int) == 10) = false := by rw [hc]; rfl
  have d13 : ((s[i].toNat : Int) == 38) = false := by rw [hc]; rfl
  have d14 : ((s[i].toNat : Int) == 58) = true := by rw [hc]; rfl
  clear hpo hc
  go_wp2_with fail
  exact H1.out _ ⟨(fun d => cond (Nat.ble 37 d && Nat.ble d 112) (cond (Nat.ble d 68) (cond (Nat.ble d 52) (List.getD [_, _, _, _, _, _, _, _, _, _, _, _, _, _, _, _] (d - 37) undef) (List.getD [_, _, _, _, _, _, _, _, _, _, _, _, _, _, _, _] (d - 53) undef)) (cond (Nat.ble d 84) (List.getD [_, _, _, _, _, _, _, _, _, _, _, _, _, _, _, _] (d - 69) undef) (cond (Nat.ble d 100) (List.getD [_, _, _, _, _, _, _, _, _, _, _, _, _, _, _, _] (d - 85) undef) (List.getD [_, _, _, _, _, _, _, _, _, _, _, _] (d - 101) undef)))) (v d)), rfl⟩

set_option maxRecDepth 100000 in
set_option maxHeartbeats 8000000 in
theorem sw_dull (bp : Nat) (s : ByteArray) (ov : Value) (last : Nat) (bt : Bool) (i : Nat) (p : PSt) (st : Bool) (w : World) (hp : PsAt w bp p) (hO : OptS w p st) (hi : i < s.size) (hs : s.size ≤ 1000000) (hd : dull s[i] = true) (Q : Exit → Act → World → Prop)
    (h1 : ∀ a', FrP bp s ov last bt i (pOf st s[i]) a' → Q .normal a' w) (a : Act) (ha : FrP bp s ov last bt i none a) : Code.wp Tryz.prog iSW Q a w := by
  have hpo : pOf st s[i] = none := by
    unfold pOf
    rw [if_neg (fun e => by rw [e] at hd; cases hd)]
    rw [if_neg (fun e => by rw [e] at hd; cases hd)]
    rw [if_neg (fun e => by rw [e] at hd; cases hd)]
    rw [if_neg (fun e => by rw [e] at hd; cases hd)]
    rw [if_neg (fun e => by rw [e] at hd; cases hd)]
    rw [if_neg (fun e => by rw [e] at hd; cases hd)]
    rw [if_neg (fun e => by rw [e] at hd; cases hd)]
    rw [if_neg (fun e => by rw [e] at hd; cases hd)]
    rw [if_neg (fun e => by rw [e] at hd; cases hd)]
  rw [hpo] at h1
  have H1 := Lib.hid h1
  have k0 : w.cell? ⟨bp, 0, none⟩ = some (.pointer (some ⟨p.parser, 0, none⟩)) := hp.parser
  have o1 := hO.k1.cell
  have o6 := hO.k6.cell
  have o7 := hO.k7.cell
  have o8 := hO.k8.cell
  have o9 := hO.k9.cell
  have w1 : (i : Int) < s.size := by omega
  have w2 : (0 : Int) ≤ i := by omega
  clear h1 hO hp
  obtain ⟨v, rfl⟩ := ha
  conv => arg 2; whnf
  have d0 : ((s[i].toNat : Int) == 92) = false := dull_ne hd 92 rfl
  have d1 : ((s[i].toNat : Int) == 96) = false := dull_ne hd 96 rfl
  have d2 : ((s[i].toNat : Int) == 60) = false := dull_ne hd 60 rfl
  have d3 : ((s[i].toNat : Int) == 91) = false := dull_ne hd 91 rfl
  have d4 : ((s[i].toNat : Int) == 33) = false := dull_ne hd 33 rfl
  have d5 : ((s[i].toNat : Int) == 95) = false := dull_ne hd 95 rfl
  have d6 : ((s[i].toNat : Int) == 42) = false := dull_ne hd 42 rfl
  have d7 : ((s[i].toNat : Int) == 46) = false := dull_ne hd 46 rfl
  have d8 : ((s[i].toNat : Int) == 45) = false := dull_ne hd 45 rfl
  have d9 : ((s[i].toNat : Int) == 34) = false := dull_ne hd 34 rfl
  have d10 : ((s[i].toNat : Int) == 39) = false := dull_ne hd 39 rfl
  have d11 : ((s[i].toNat : Int) == 126) = false := dull_ne hd 126 rfl
  have d12 : ((s[i].toNat : Int) == 10) = false := dull_ne hd 10 rfl
  have d13 : ((s[i].toNat : Int) == 38) = false := dull_ne hd 38 rfl
  have d14 : ((s[i].toNat : Int) == 58) = false := dull_ne hd 58 rfl
  clear hpo hd
  go_wp2_with fail
  exact H1.out _ ⟨(fun d => cond (Nat.ble 37 d && Nat.ble d 112) (cond (Nat.ble d 68) (cond (Nat.ble d 52) (List.getD [_, _, _, _, _, _, _, _, _, _, _, _, _, _, _, _] (d - 37) undef) (List.getD [_, _, _, _, _, _, _, _, _, _, _, _, _, _, _, _] (d - 53) undef)) (cond (Nat.ble d 84) (List.getD [_, _, _, _, _, _, _, _, _, _, _, _, _, _, _, _] (d - 69) undef) (cond (Nat.ble d 100) (List.getD [_, _, _, _, _, _, _, _, _, _, _, _, _, _, _, _] (d - 85) undef) (List.getD [_, _, _, _, _, _, _, _, _, _, _, _] (d - 101) undef)))) (v d)), rfl⟩

set_option maxRecDepth 100000 in
set_option maxHeartbeats 8000000 in
theorem sw (bp : Nat) (s : ByteArray) (ov : Value) (last : Nat) (bt : Bool) (i : Nat) (p : PSt) (st : Bool) (w : World) (hp : PsAt w bp p) (hO : OptS w p st) (hi : i < s.size) (hs : s.size ≤ 1000000) (hc : s[i] ≠ 96) (Q : Exit → Act → World → Prop)
    (h1 : ∀ a', FrP bp s ov last bt i (pOf st s[i]) a' → Q .normal a' w) (a : Act) (ha : FrP bp s ov last bt i none a) : Code.wp Tryz.prog iSW Q a w := by
  by_cases hd : dull s[i] = true
  · exact sw_dull bp s ov last bt i p st w hp hO hi hs hd Q h1 a ha
  · have hm : s[i] ∈ ([92, 96, 60, 91, 33, 95, 42, 46, 45, 34, 39, 126, 10, 38, 58] : List UInt8) := by
      cases hcc : ([92, 96, 60, 91, 33, 95, 42, 46, 45, 34, 39, 126, 10, 38, 58] : List UInt8).contains s[i] with
      | true => exact List.contains_iff_mem.1 hcc
      | false => exact absurd (by unfold dull; rw [hcc]; rfl) hd
    simp only [List.mem_cons, List.not_mem_nil, or_false] at hm
    rcases hm with h | h | h | h | h | h | h | h | h | h | h | h | h | h | h
    · exact sw_92 bp s ov last bt i p st w hp hO hi hs h Q h1 a ha
    · exact absurd h hc
    · exact sw_60 bp s ov last bt i p st w hp hO hi hs h Q h1 a ha
    · exact sw_91 bp s ov last bt i p st w hp hO hi hs h Q h1 a ha
    · exact sw_33 bp s ov last bt i p st w hp hO hi hs h Q h1 a ha
    · exact sw_95 bp s ov last bt i p st w hp hO hi hs h Q h1 a ha
    · exact sw_42 bp s ov last bt i p st w hp hO hi hs h Q h1 a ha
    · exact sw_46 bp s ov last bt i p st w hp hO hi hs h Q h1 a ha
    · exact sw_45 bp s ov last bt i p st w hp hO hi hs h Q h1 a ha
    · exact sw_34 bp s ov last bt i p st w hp hO hi hs h Q h1 a ha
    · exact sw_39 bp s ov last bt i p st w hp hO hi hs h Q h1 a ha
    · exact sw_126 bp s ov last bt i p st w hp hO hi hs h Q h1 a ha
    · exact sw_10 bp s ov last bt i p st w hp hO hi hs h Q h1 a ha
    · exact sw_38 bp s ov last bt i p st w hp hO hi hs h Q h1 a ha
    · exact sw_58 bp s ov last bt i p st w hp hO hi hs h Q h1 a ha
end Go.Proofs.YtmmopoofheblbaaGreatDoor.T

/- inline on any text: a piece is read. -/
namespace Go.Proofs.YtmmopoofheblbaaGreatDoor.T
open Go Go.RowKit Go.Proofs

def Sr.er : Sr → Sr
  | .mk p => .mk { p with m := 0 }
  | x => x
def tyS : Sr → Nat
  | .fin t => t.ty
  | .opn _ _ => 228
  | .mk _ => 266

/-- What the call of a piece's function gives. -/
def PieceCall (s : ByteArray) (k fn : Nat) (pc : Sr) (st en : Nat) : Prop :=
  ∀ (bp : Nat) (q : PSt) (W : World), PsAt W bp q →
    Calls Tryz.prog fn #[.pointer (some ⟨bp, 0, none⟩), .string s, .int .i64 k] W fun e w' => ∃ b c x, e = .returned (.tuple #[.iface (tyS pc) (.pointer (some ⟨b, 0, none⟩)), .int .i64 st, .int .i64 en, .bool true]) ∧
      Mods (fun k => k = bp) W w' ∧ PsAt w' bp { q with corner := c } ∧ x.er = pc ∧ SrAt (fun b => b < W.heap.size) w' x (.iface (tyS pc) (.pointer (some ⟨b, 0, none⟩))) ∧ ∀ p, x = .mk p → W.heap.size ≤ p.m
/-- What it gives where there is no piece. -/
def FailCall (s : ByteArray) (k fn : Nat) : Prop :=
  ∀ (bp : Nat) (q : PSt) (W : World), PsAt W bp q →
    Calls Tryz.prog fn #[.pointer (some ⟨bp, 0, none⟩), .string s, .int .i64 k] W fun e w' => ∃ c, e = .returned (.tuple #[.nilIface, .int .i64 0, .int .i64 0, .bool false]) ∧ Mods (fun k => k = bp) W w' ∧ PsAt w' bp { q with corner := c }

structure OpE where
  idx : Nat
  img : Bool
  pos : Nat
def bra (img : Bool) : ByteArray := if img then ⟨#[33, 91]⟩ else ⟨#[91]⟩
/-- The open brackets, in memory. -/
structure OpsAt (w0 w : World) (ov : Value) (ops : List OpE) : Prop where
  row : w.ownsRow 0 3 1 ov ops.length (ops.map (fun o => .int .i64 (o.idx : Int)))
  fresh : ∀ g, ov.ownBlock = some g → w0.heap.size ≤ g
theorem OpsAt.keep {w0 w w' : World} {ov : Value} {ops : List OpE} {X : Nat → Prop} (h : OpsAt w0 w ov ops) (hm : Mods X w w') (hX : ∀ b cs T, Blk w b cs T → X b → T ≠ 3) : OpsAt w0 w' ov ops :=
  ⟨ownsRow_keep h.row hm (fun g hg hx => by obtain ⟨cur, hb⟩ := row_blk h.row hg; exact hX _ _ _ hb hx rfl), h.fresh⟩
theorem OpsAt.same {w0 w w' : World} {ov : Value} {ops : List OpE} (h : OpsAt w0 w ov ops) (hm : Same w w') : OpsAt w0 w' ov ops := h.keep hm (fun _ _ _ _ x => absurd x (fun x => x))

theorem ISt.noint {B : Nat → Prop} {w0 w : World} {bp : Nat} {p : PSt} {s : ByteArray} {e : Nat} {lv : Value} {xs : List Value} {l : List Sr} (h : ISt B w0 w bp p s e lv xs l) : ∀ b cs T, Blk w b cs T → (b = bp ∨ lv.ownBlock = some b) → T ≠ 3 := by
  rintro b cs T hb (x | x)
  · rw [ps_ty h.at_ hb x]
    decide
  · obtain ⟨cur, hc⟩ := row_blk h.row x
    unfold Blk at hb hc
    rw [hb] at hc
    cases hc
    decide

theorem ISt.push_at {B : Nat → Prop} {w0 w w1 : World} {bp : Nat} {p : PSt} {s : ByteArray} {e : Nat} {lv : Value} {xs : List Value} {l : List Sr} {o : Obj} (h : ISt B w0 w bp p s e lv xs l) (hgrow : (w.alloc o).grownBy w1 lv.ownBlock) :
    w1.cell? ⟨bp, 9, none⟩ = some lv ∧ w1.frozen? ⟨bp, 9, none⟩ = false ∧ bp < w1.heap.size ∧ Mods (fun k => lv.ownBlock = some k) w w1 ∧ ∃ q, PsAt w1 bp q := by
  have h1 := h.same ((Mods.refl _ w).alloc o)
  have hp1 := h1.at_.keep (grown_mods hgrow) (fun x => own_ne_ps h1.row h1.at_ (by decide) x)
  exact ⟨hp1.list, hp1.fr 9, hp1.lt, ((Mods.refl (fun k => lv.ownBlock = some k) w).alloc o).then (grown_mods hgrow) (fun _ _ x => x), _, hp1⟩

/-- A value is put behind the list, and the list stored. -/
theorem ISt.push {B : Nat → Prop} {w0 w w1 : World} {bp : Nat} {p : PSt} {s : ByteArray} {e g cap : Nat} {lv : Value} {xs : List Value} {l : List Sr} {o : Obj} (h : ISt B w0 w bp p s e lv xs l) (x : Sr) (v : Value)
    (hown1 : w1.ownsRow 0 157 1 (.slice (some ⟨g, 0, none⟩) (xs.length + 1) cap) (xs.length + 1) (xs ++ [v])) (hgrow : (w.alloc o).grownBy w1 lv.ownBlock) (hloc : lv.ownBlock = some g ∨ g = w.heap.size + 1)
    (hx : SrAt (fun b => ¬ B b) w x v) (hxm : ∀ p, x = .mk p → B p.m ∧ w0.heap.size ≤ p.m) (hadj : ∀ a b, l.getLast? = some (.mk a) → x = .mk b → a.c ≠ b.c) :
    ISt NoB w0 (w1.setCell ⟨bp, 9, none⟩ (.slice (some ⟨g, 0, none⟩) (xs.length + 1) cap)) bp p s e (.slice (some ⟨g, 0, none⟩) (xs.length + 1) cap) (xs ++ [v]) (l ++ [x]) := by
  have hBlt : ∀ b, B b → b < w.heap.size := fun b hb => h.src.a0 b (Or.inr hb)
  have hz : (w.alloc o).heap.size = w.heap.size + 1 := by simp
  have hS : Same w (w.alloc o) := (Mods.refl _ w).alloc o
  have h1 := h.same hS
  have hmA := grown_mods hgrow
  have hnb : lv.ownBlock ≠ some bp := fun x => own_ne_ps h1.row h1.at_ (by decide) x
  have hp1 := h1.at_.keep hmA hnb
  have hm2 : Mods (fun k => k = bp) w1 (w1.setCell ⟨bp, 9, none⟩ (.slice (some ⟨g, 0, none⟩) (xs.length + 1) cap)) := (Mods.refl (fun k => k = bp) w1).setCell (p := ⟨bp, 9, none⟩) (fun _ => rfl) _
  have hm3 : Mods (fun k => k = bp ∨ lv.ownBlock = some k) w (w1.setCell ⟨bp, 9, none⟩ (.slice (some ⟨g, 0, none⟩) (xs.length + 1) cap)) :=
    ((hS.mono (S' := fun k => k = bp ∨ lv.ownBlock = some k) (fun _ _ x => absurd x (fun x => x))).then hmA (fun _ _ x => Or.inr x)).then hm2 (fun _ _ x => Or.inl x)
  obtain ⟨curg, hcg⟩ := row_blk hown1 rfl
  have hgl : lv.ownBlock = some g ∨ w.heap.size ≤ g := hloc.imp (fun x => x) (fun x => by omega)
  have hgB : ¬ B g := by
    rcases hgl with x | x
    · exact (h.fresh g x).2
    · intro hb
      have := hBlt g hb
      omega
  have e1 : (xs ++ [v]).length = xs.length + 1 := by simp
  refine ⟨h.mods.then hm3 (fun b hb x => ?_), hp1.set 9 _ _ rfl (by decide), ?_, ?_, ?_, ?_, fun x => x⟩
  · rcases x with x | x
    · exact x
    · have := (h.fresh b x).1
      omega
  · rw [e1]
    exact ownsRow_keep hown1 hm2 (fun k hk he => own_ne_ps hown1 hp1 (by decide) (by rw [← he]; exact hk))
  · refine SrcAt.push (A := fun b => lv.ownBlock = some b) (B := B) h.src hm3 (list_A h) ?_ ?_ x v hx ?_ ?_ (fun p hp => (hxm p hp).1) hadj
    · rintro b (hb | hb)
      · cases hb
        exact hgl
      · exact absurd hb (fun x => x)
    · rintro b (hb | hb)
      · cases hb
        have := hcg.lt
        have := hm2.size
        omega
      · exact absurd hb (fun x => x)
    · rintro b (hb | hb) hB
      · subst hb
        exact h.nb hB
      · exact (h.fresh b hb).2 hB
    · rintro b (hb | hb) hB
      · cases hb
        exact hgB hB
      · exact absurd hb (fun x => x)
  · intro g' hg'
    cases hg'
    refine ⟨?_, fun x => x⟩
    rcases hgl with x | x
    · exact (h.fresh g x).1
    · exact Nat.le_trans h.mods.size x
  · intro m hm
    rw [liveS_append] at hm
    rcases List.mem_append.1 hm with x1 | x1
    · exact h.new m x1
    · cases x with
      | fin t => cases x1
      | opn t i => cases x1
      | mk p =>
        have : m = p.m := by simpa [liveS] using x1
        rw [this]
        exact (hxm p rfl).2

/-- The call of a piece's function. -/
theorem ISt.called {w0 w w1 : World} {bp : Nat} {p : PSt} {s : ByteArray} {e : Nat} {lv : Value} {xs : List Value} {l : List Sr} {c : Bool} (h : ISt NoB w0 w bp p s e lv xs l) (hm : Mods (fun k => k = bp) w w1) (hp : PsAt w1 bp { ({ p with s := s, list := lv, emitted := ((e : Nat) : Int) } : PSt) with corner := c }) :
    ISt (fun b => w.heap.size ≤ b ∧ b < w1.heap.size) w0 w1 bp { p with corner := c } s e lv xs l ∧ ISt NoB w0 w1 bp { p with corner := c } s e lv xs l :=
  ⟨h.state hm hp (fun _ hb => Or.inr hb.1) (fun _ hb => hb.2), h.state hm hp (fun _ hb => absurd hb (fun x => x)) (fun _ hb => absurd hb (fun x => x))⟩
theorem SrAt.new {w w1 : World} {x : Sr} {v : Value} (h : SrAt (fun b => b < w.heap.size) w1 x v) : SrAt (fun b => ¬ (w.heap.size ≤ b ∧ b < w1.heap.size)) w1 x v :=
  h.keep (Mods.refl (fun _ => False) w1) (fun _ _ _ _ _ x => absurd x (fun x => x)) (fun b hb => by omega) (fun _ _ x => x)
theorem SrAt.emitted {w w1 w2 : World} {bp : Nat} {p : PSt} {s : ByteArray} {e : Nat} {lv : Value} {xs : List Value} {l : List Sr} {w0 : World} {x : Sr} {v : Value} (h : SrAt (fun b => ¬ (w.heap.size ≤ b ∧ b < w1.heap.size)) w1 x v)
    (hS : ISt (fun b => w.heap.size ≤ b ∧ b < w1.heap.size) w0 w1 bp p s e lv xs l) (hm : Mods (fun k => k = bp ∨ lv.ownBlock = some k) w1 w2) (hxm : ∀ p, x = .mk p → w.heap.size ≤ p.m) : SrAt (fun b => ¬ (w.heap.size ≤ b ∧ b < w1.heap.size)) w2 x v := by
  have hX : ∀ b, (b = bp ∨ lv.ownBlock = some b) → ¬ (w.heap.size ≤ b ∧ b < w1.heap.size) := by
    rintro b (e | e)
    · subst e
      exact hS.nb
    · exact (hS.fresh b e).2
  refine h.keep hm (fun b _ _ _ _ hx => hX b hx) (fun _ hb => Or.inl hb) (fun q hq hx => ?_)
  subst hq
  obtain ⟨_, ⟨i, hi⟩, _⟩ := h
  exact hX _ hx ⟨hxm q rfl, Blk.lt hi⟩

set_option maxRecDepth 100000 in
set_option maxHeartbeats 8000000 in
theorem call_none (bp : Nat) (s : ByteArray) (ov : Value) (last : Nat) (bt : Bool) (i : Nat) (w : World) (Q : Exit → Act → World → Prop) (h1 : ∀ a', FrI bp s ov last bt i a' → Q .normal a' w)
    (a : Act) (ha : FrP bp s ov last bt i none a) : Code.wp Tryz.prog iCall Q a w := by
  have H1 := Lib.hid h1
  have hE := eql_nil_nil
  clear h1
  obtain ⟨v, rfl⟩ := ha
  unfold fnV
  conv => arg 2; whnf
  go_wp2_with fail
  exact H1.out _ ⟨(fun d => cond (Nat.ble 9 d && Nat.ble d 114) (cond (Nat.ble d 56) (cond (Nat.ble d 24) (List.getD [_, _, _, _, _, _, _, _, _, _, _, _, _, _, _, _] (d - 9) undef) (cond (Nat.ble d 40) (List.getD [_, _, _, _, _, _, _, _, _, _, _, _, _, _, _, _] (d - 25) undef) (List.getD [_, _, _, _, _, _, _, _, _, _, _, _, _, _, _, _] (d - 41) undef))) (cond (Nat.ble d 88) (cond (Nat.ble d 72) (List.getD [_, _, _, _, _, _, _, _, _, _, _, _, _, _, _, _] (d - 57) undef) (List.getD [_, _, _, _, _, _, _, _, _, _, _, _, _, _, _, _] (d - 73) undef)) (cond (Nat.ble d 104) (List.getD [_, _, _, _, _, _, _, _, _, _, _, _, _, _, _, _] (d - 89) undef) (List.getD [_, _, _, _, _, _, _, _, _, _] (d - 105) undef)))) (v d)), rfl⟩

set_option maxRecDepth 100000 in
set_option maxHeartbeats 8000000 in
theorem call_fail (bp : Nat) (s : ByteArray) (ov : Value) (last : Nat) (bt : Bool) (i fn : Nat) (q : PSt) (w : World) (hp : PsAt w bp q) (hcf : ∀ (args : Array Value) (W : World), (callFunc fn args).run Tryz.prog W = .ok (.enter fn args) W) (hcall : FailCall s i fn) (Q : Exit → Act → World → Prop)
    (h1 : ∀ a' w' c, FrI bp s ov last bt i a' → Mods (fun k => k = bp) w w' → PsAt w' bp { q with corner := c } → Q .normal a' w')
    (a : Act) (ha : FrP bp s ov last bt i (some fn) a) : Code.wp Tryz.prog iCall Q a w := by
  have H1 := Lib.hid h1
  have HC := Lib.hid hcall
  have hE := eql_func_nil
  clear h1 hcall
  obtain ⟨v, rfl⟩ := ha
  unfold fnV
  conv => arg 2; whnf
  go_wp2_with fail
  refine (HC.out bp q w hp).mono ?_
  rintro e w1 ⟨c, rfl, hm1, hp1⟩
  go_wp2_with fail
  exact H1.out _ _ c ⟨(fun d => cond (Nat.ble 9 d && Nat.ble d 125) (cond (Nat.ble d 72) (cond (Nat.ble d 40) (cond (Nat.ble d 24) (List.getD [_, _, _, _, _, _, _, _, _, _, _, _, _, _, _, _] (d - 9) undef) (List.getD [_, _, _, _, _, _, _, _, _, _, _, _, _, _, _, _] (d - 25) undef)) (cond (Nat.ble d 56) (List.getD [_, _, _, _, _, _, _, _, _, _, _, _, _, _, _, _] (d - 41) undef) (List.getD [_, _, _, _, _, _, _, _, _, _, _, _, _, _, _, _] (d - 57) undef))) (cond (Nat.ble d 104) (cond (Nat.ble d 88) (List.getD [_, _, _, _, _, _, _, _, _, _, _, _, _, _, _, _] (d - 73) undef) (List.getD [_, _, _, _, _, _, _, _, _, _, _, _, _, _, _, _] (d - 89) undef)) (cond (Nat.ble d 120) (List.getD [_, _, _, _, _, _, _, _, _, _, _, _, _, _, _, _] (d - 105) undef) (List.getD [_, _, _, _, _] (d - 121) undef)))) (v d)), rfl⟩ hm1 hp1

set_option maxRecDepth 100000 in
set_option maxHeartbeats 8000000 in
theorem call_piece {w0 w : World} {bp : Nat} {p : PSt} {s : ByteArray} {e : Nat} {lv : Value} {xs : List Value} {l : List Sr} (hS : ISt NoB w0 w bp p s e lv xs l) (ov : Value) (ops : List OpE) (hops : OpsAt w0 w ov ops) (last : Nat) (bt : Bool) (i fn st en : Nat) (pc : Sr)
    (hcf : ∀ (args : Array Value) (W : World), (callFunc fn args).run Tryz.prog W = .ok (.enter fn args) W) (hcall : PieceCall s i fn pc st en) (hty : tyS pc ≠ 228) (h1 : e ≤ st) (h2 : st ≤ s.size) (h3 : en ≤ s.size) (hs : s.size ≤ 900000) (hn : xs.length ≤ 900000)
    (hadj : ∀ a b, (l ++ plainS s e st).getLast? = some (.mk a) → pc = .mk b → a.c ≠ b.c) (Q : Exit → Act → World → Prop)
    (hq : ∀ a' w' c lv' xs' x, x.er = pc → FrI bp s ov last bt en a' → ISt NoB w0 w' bp { p with corner := c } s en lv' xs' (l ++ plainS s e st ++ [x]) → OpsAt w0 w' ov ops → Q (.exit 1) a' w')
    (a : Act) (ha : FrP bp s ov last bt i (some fn) a) : Code.wp Tryz.prog iCall Q a w := by
  have HQ := Lib.hid hq
  have HC := Lib.hid hcall
  have HADJ := Lib.hid hadj
  have hE := eql_func_nil
  have hAO := fun X v w => as_open_any (tyS pc) X v w hty
  generalize hT : tyS pc = T at hAO
  have HT := Lib.hid hT
  clear hq hcall hadj hty hT
  obtain ⟨v, rfl⟩ := ha
  unfold fnV
  conv => arg 2; whnf
  go_wp2_with fail
  have hc0 := HC.out bp _ w hS.at_
  rw [HT.out] at hc0
  refine hc0.mono ?_
  rintro e' w1 ⟨b, c, x, rfl, hm1, hp1, hx, hsr, hxm⟩
  obtain ⟨S1, _⟩ := hS.called hm1 hp1
  have hops1 := hops.keep hm1 (fun b cs T hb hx => hS.noint b cs T hb (Or.inl hx))
  have hz0 := hS.mods.size
  have HX := Lib.hid hx
  have hxb : ∀ q, x = .mk q → w.heap.size ≤ q.m ∧ q.m < w1.heap.size := fun q hq => by
    refine ⟨hxm q hq, ?_⟩
    subst hq
    obtain ⟨_, ⟨i', hi'⟩, _⟩ := hsr
    exact Blk.lt hi'
  have HXB := Lib.hid hxb
  have HSR := Lib.hid hsr.new
  have HXM := Lib.hid hxm
  clear hS hops hm1 hp1 hx hsr hxm hxb hc0
  go_wp2_with fail
  refine (S1.emit st h1 h2 (by omega) (by omega)).mono ?_
  rintro e' w2 ⟨rfl, lv2, xs2, hm2, S2⟩
  have hsr2 := HSR.out.emitted S1 hm2 HXM.out
  have hops2 := hops1.keep hm2 S1.noint
  have k9 := S2.at_.list
  have hl9 := S2.at_.lt
  have hx2 : xs2.length ≤ 1000000 := by
    have a1 := S2.src.len
    have a2 := S1.src.len
    rw [List.length_append] at a1
    have : (plainS s e st).length ≤ 1 := by unfold plainS; split <;> simp
    omega
  have HSR2 := Lib.hid hsr2
  have HOP2 := Lib.hid hops2
  clear S1 hm2 hsr2 hops1 hops2 HSR
  go_wp2_with (at_builtin; refine ap_inl rfl (.tmp 147) (.tmp 149) rfl lv2 xs2.length xs2 rfl (S2.row.alloc _) w2.heap.size 1 _ (.pointer (some ⟨b, 0, none⟩)) rfl ((Blk.newAt _ _ rfl).cell 0) hx2 ?_)
  intro g cap w3 hown3 hgrow hloc
  obtain ⟨k9', f9', hl9', hm3, q3, hq3⟩ := S2.push_at hgrow
  have hadj2 : ∀ a b, (l ++ plainS s e st).getLast? = some (.mk a) → x = .mk b → a.c ≠ b.c := by
    intro a1 b1 h4 h5
    subst h5
    exact HADJ.out a1 { b1 with m := 0 } h4 HX.out.symm
  have S3 := S2.push x (.iface T (.pointer (some ⟨b, 0, none⟩))) hown3 hgrow (hloc.imp (fun x => x) (fun x => x.trans (by simp))) HSR2.out (fun q hq => ⟨HXB.out q hq, by have := (HXB.out q hq).1; omega⟩) hadj2
  have hops3 : OpsAt w0 w3 ov ops := HOP2.out.keep hm3 (fun b cs T hb hx => S2.noint b cs T hb (Or.inr hx))
  have hm4 : Mods (fun k => k = bp) w3 (w3.setCell ⟨bp, 9, none⟩ (.slice (some ⟨g, 0, none⟩) (xs2.length + 1) cap)) := (Mods.refl (fun k => k = bp) w3).setCell (p := ⟨bp, 9, none⟩) (fun _ => rfl) _
  have hops4 := hops3.keep hm4 (fun b' cs T hb' hx' => by rw [ps_ty hq3 hb' hx']; decide)
  clear hgrow hloc hown3 k9 hl9 hm3 hops3 S2 HSR2 HOP2 hm4 hq3
  go_wp2_with fail
  generalize (World.setCell w3 _ _ : World) = w4 at S3 hops4 ⊢
  refine (skip_any bp _ _ _ S3.at_).mono ?_
  rintro e' w5 ⟨rfl, hm5, hp5⟩
  have S5 := S3.state (B' := NoB) (q := { p with corner := c }) (e' := en) hm5 hp5 (fun _ hb => absurd hb (fun x => x)) (fun _ hb => absurd hb (fun x => x))
  have hops5 := hops4.keep hm5 (fun b cs T hb hx => S3.noint b cs T hb (Or.inl hx))
  go_wp2_with fail
  exact HQ.out _ _ c _ _ x HX.out ⟨(fun d => cond (Nat.ble 9 d && Nat.ble d 156) (cond (Nat.ble d 88) (cond (Nat.ble d 40) (cond (Nat.ble d 24) (List.getD [_, _, _, _, _, _, _, _, _, _, _, _, _, _, _, _] (d - 9) undef) (List.getD [_, _, _, _, _, _, _, _, _, _, _, _, _, _, _, _] (d - 25) undef)) (cond (Nat.ble d 56) (List.getD [_, _, _, _, _, _, _, _, _, _, _, _, _, _, _, _] (d - 41) undef) (cond (Nat.ble d 72) (List.getD [_, _, _, _, _, _, _, _, _, _, _, _, _, _, _, _] (d - 57) undef) (List.getD [_, _, _, _, _, _, _, _, _, _, _, _, _, _, _, _] (d - 73) undef)))) (cond (Nat.ble d 120) (cond (Nat.ble d 104) (List.getD [_, _, _, _, _, _, _, _, _, _, _, _, _, _, _, _] (d - 89) undef) (List.getD [_, _, _, _, _, _, _, _, _, _, _, _, _, _, _, _] (d - 105) undef)) (cond (Nat.ble d 136) (List.getD [_, _, _, _, _, _, _, _, _, _, _, _, _, _, _, _] (d - 121) undef) (cond (Nat.ble d 152) (List.getD [_, _, _, _, _, _, _, _, _, _, _, _, _, _, _, _] (d - 137) undef) (List.getD [_, _, _, _] (d - 153) undef))))) (v d)), rfl⟩ S5 hops5
end Go.Proofs.YtmmopoofheblbaaGreatDoor.T
