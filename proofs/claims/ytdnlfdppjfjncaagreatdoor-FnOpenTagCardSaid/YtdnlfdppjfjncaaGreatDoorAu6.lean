/- Some texts of one proof, put into one file: Emph, Inline2, Trim, Parse, Print, Plain. -/
import Derived.Deep.LoopGhost
import Derived.Deep.RegionWith
import Derived.Shelf.Strings.Builder1
import Derived.Shelf.Strings.Builder2
import Derived.Shelf.Strings.OnBuilder
import Derived.Shelf.Small.Utf8
import Derived.Shelf.Small.Strs
import Derived.Shelf.Strings.BuilderF
import Derived.Shelf.Strings.BuilderK
import Derived.Shelf.LaysM
import Derived.Shelf.Bytes.Len
import Derived.Shelf.Bytes.TryGrow
import Derived.Shelf.Bytes.GrowSliceCatch
import Derived.Shelf.Bytes.GrowSlice
import Derived.Shelf.Bytes.String
import Derived.Shelf.Bytes.Bytes
import Derived.Shelf.Strings.Search1
import Derived.Shelf.Bytes.GrowRow0Kept
import Derived.Shelf.Bytes.GrowRowKept
import Derived.Shelf.Bytes.GrowNilKept
import Derived.Shelf.Bytes.GrowKept
import Derived.Shelf.Bytes.WriteByteKept
import Derived.Shelf.Bytes.WriteStringKept
import Derived.Shelf.Bytes.ResetKept
import Derived.Shelf.Bytes.BufferK
import Derived.Shelf.Bits.Mul64
import Derived.Shelf.Unicode.DecodeSlow
import Derived.Test.YtdnlfdppjfjncaaGreatDoorProg
import Derived.Test.YtdnlfdppjfjncaaGreatDoorAu3
import Derived.Test.YtdnlfdppjfjncaaGreatDoorAu5
/- emph changes nothing in a list without marks of emphasis. -/
namespace Go.Proofs.YtdnlfdppjfjncaaGreatDoor
open Go Go.RowKit Go.Proofs

theorem emph_facts {wr w1 wB : World} {b T : Nat} {v : Value} (h1 : Same wr w1) (h2 : Same w1 wB) (hD : Blk wr b #[v] T) :
    Same wr wB ∧ Blk wB b #[v] T ∧ wB.cell? ⟨b, 0, none⟩ = some v ∧ wB.frozen? ⟨b, 0, none⟩ = false ∧ b < wB.heap.size := by
  have h := h1.trans h2
  have hB := Same.blk h hD
  exact ⟨h, hB, hB.cell 0, hB.fr 0, hB.lt⟩

theorem emph_end {w wr wB : World} {b : Nat} {v : Value} (h1 : Same w wr) (h2 : Same wr wB) (hb : w.heap.size ≤ b) : Same w (wB.setCell ⟨b, 0, none⟩ v) :=
  (h1.trans h2).setCell (p := ⟨b, 0, none⟩) (fun h => absurd h (Nat.not_lt.2 hb)) v

set_option maxRecDepth 100000 in
set_option maxHeartbeats 8000000 in
theorem emph_id (q : Value) (g n cap : Nat) (xs : List Value) (ps : List Pc) (w : World) (hown : w.ownsRow 0 132 1 (.slice (some ⟨g, 0, none⟩) n cap) n xs) (hx : PcsAt w xs ps) (hn : n ≤ 1000000) :
    Calls Tryz.prog 91 #[q, .slice (some ⟨g, 0, none⟩) 0 cap, .slice (some ⟨g, 0, none⟩) n cap] w fun e w' => e = .returned (.slice (some ⟨g, 0, none⟩) n cap) ∧ Same w w' := by
  have hcap : n ≤ cap := by
    rcases hown.2 with ⟨h, _⟩ | ⟨_, _, _, h, _, _, hc, _⟩
    · cases h
    · cases h; exact hc
  go_enter Tryz.func91, Tryz.ntmps91
  go_wp2_with fail
  go_step3
  go_wp2_with fail
  go_step3
  go_wp2_with fail
  generalize hW : (World.alloc _ _ : World) = W
  have hS : Same w W := by subst hW; exact ((Mods.refl _ w).alloc _).alloc _
  have hD : Blk W w.heap.size #[.slice (some ⟨g, 0, none⟩) 0 cap] 88 := by subst hW; exact (Blk.newAt _ _ rfl).alloc _
  clear hW
  refine wp_loop_ghost_k (fun m a wr => ∃ (i : Nat) (v : Nat → Value), (m = n - i ∧ i ≤ n ∧ Same w wr ∧ Blk wr w.heap.size #[.slice (some ⟨g, 0, none⟩) i cap] 88) ∧
    a = ⟨#[q, .slice (some ⟨g, 0, none⟩) 0 cap, .slice (some ⟨g, 0, none⟩) n cap, undef, .pointer (some ⟨w.heap.size, 0, none⟩), undef, .slice none 0 0, .pointer (some ⟨w.heap.size + 1, 0, none⟩), .func (.func 129) #[] #[], .func (.func 130) #[] #[.pointer (some ⟨w.heap.size + 1, 0, none⟩), .pointer (some ⟨w.heap.size, 0, none⟩)], .int .i64 i, v 11, v 12, v 13, v 14, v 15, v 16, v 17, v 18, v 19, v 20, v 21, .func (.func 130) #[] #[.pointer (some ⟨w.heap.size + 1, 0, none⟩), .pointer (some ⟨w.heap.size, 0, none⟩)], v 23, v 24, v 25, v 26, v 27, v 28, v 29, v 30, v 31, v 32, v 33, v 34, v 35, v 36, v 37, v 38, v 39, v 40, v 41, v 42, v 43, v 44, v 45, v 46, v 47, v 48, v 49, v 50, v 51, v 52, v 53, v 54, v 55, v 56, v 57, v 58, v 59, v 60, v 61, v 62, v 63, v 64, v 65, v 66, v 67, v 68, v 69, v 70, v 71, v 72, v 73, v 74, v 75, v 76, v 77, v 78, v 79, v 80, v 81, v 82, v 83, v 84, v 85, v 86, v 87, v 88, v 89, v 90, v 91, v 92, v 93, v 94, v 95, v 96, v 97, v 98, v 99, v 100, v 101, v 102, v 103, v 104, v 105, v 106, v 107, v 108, v 109, v 110, v 111, v 112, v 113, v 114, v 115, v 116, v 117, v 118, v 119, v 120, v 121, v 122, v 123, v 124, v 125, v 126, v 127, v 128, v 129, v 130, v 131, v 132, v 133, v 134, v 135, v 136, v 137, v 138, v 139, v 140, v 141, v 142, v 143, v 144, v 145, v 146, v 147, v 148, v 149, v 150, v 151, v 152, v 153, v 154, v 155, v 156, v 157, v 158, v 159, v 160, v 161, v 162, v 163, v 164, v 165, v 166, v 167, v 168, v 169, v 170, v 171, v 172, v 173, v 174, v 175, v 176, v 177, v 178, v 179, v 180, v 181, v 182, v 183, v 184, v 185, v 186, v 187, v 188, v 189, v 190, v 191, v 192, v 193, v 194, v 195, v 196, v 197, v 198, v 199, v 200, v 201, v 202, v 203, v 204, v 205, v 206, v 207, v 208, v 209, v 210, v 211, v 212, v 213, v 214, v 215, v 216, v 217, v 218, v 219, v 220, v 221, v 222, v 223, v 224, v 225, v 226, v 227, v 228, v 229, v 230, v 231, v 232, v 233, v 234, v 235, v 236, v 237, v 238, v 239, v 240, v 241, v 242, v 243, v 244, v 245, v 246, v 247, v 248, v 249, v 250, v 251, v 252, v 253, v 254, v 255, v 256, v 257, v 258, v 259, v 260, v 261, v 262, v 263, v 264, v 265, v 266, v 267, v 268, v 269, v 270, v 271, v 272, v 273, v 274, v 275, v 276, v 277, v 278, v 279, v 280, v 281, v 282, v 283, v 284, v 285, v 286, v 287, v 288, v 289, v 290, v 291, v 292, v 293, v 294, v 295, v 296, v 297, v 298, v 299, v 300, v 301, v 302, v 303, v 304, v 305, v 306, v 307, v 308, v 309, v 310, v 311, v 312, v 313, v 314, v 315, v 316, v 317, v 318, v 319, v 320, v 321, v 322, v 323, v 324, v 325, v 326, v 327, v 328, v 329, v 330, v 331, v 332, v 333, v 334, v 335, v 336, v 337, v 338, v 339, v 340, v 341, v 342, v 343, v 344, v 345, v 346, v 347, v 348, v 349, v 350, v 351, v 352, v 353, v 354, v 355, v 356, v 357, v 358, v 359, v 360, v 361, v 362, v 363, v 364, v 365, v 366, v 367, v 368, v 369, v 370, v 371, v 372, v 373, v 374, v 375, v 376, v 377, v 378, v 379, v 380, v 381, v 382, v 383, v 384, v 385, v 386, v 387, v 388, v 389, v 390, v 391, v 392, v 393, v 394, v 395, v 396, v 397, v 398, v 399, v 400, v 401, v 402, v 403, v 404, v 405, v 406, v 407, v 408, v 409, v 410, v 411, v 412, v 413, v 414, v 415, v 416, v 417, v 418, v 419, v 420, v 421, v 422, v 423, v 424, v 425, v 426, v 427, v 428, v 429, v 430, v 431, v 432, v 433, v 434, v 435], []⟩) n ⟨0, fun _ => undef, ⟨rfl, Nat.zero_le _, hS, hD⟩, rfl⟩ ?_
  · clear hS hD
    intro gk a wr hinv
    obtain ⟨i, v, ⟨rfl, hi, hm, hD⟩, rfl⟩ := hinv
    intro J K hJ hK
    have hownr := ownsRow_keep hown hm (fun _ _ x => x)
    have hxr := hx.keep hm (fun _ _ _ _ _ x => x)
    have w1 : IntKind.i64.wrap ((i : Int) + 1) = (i : Int) + 1 := IntWalk.i64_in _ (by omega)
    have w2 : (0 : Int) ≤ i := by omega
    have hDc : wr.cell? ⟨w.heap.size, 0, none⟩ = some (.slice (some ⟨g, 0, none⟩) i cap) := hD.cell 0
    have hDf : wr.frozen? ⟨w.heap.size, 0, none⟩ = false := hD.fr 0
    have hDl := hD.lt
    have hDn : w.heap.size ≤ w.heap.size := Nat.le_refl _
    have HM := Lib.hid hm
    clear hm
    by_cases hlt : i < n
    · have w3 : (i : Int) < n := by omega
      obtain ⟨b, T, hc, hxi, h1, h2⟩ := piece_quiet hownr hxr i hlt
      all_goals
        go_wp2_with fail
        have hS : ∀ o, Same wr ((wr.alloc o).drew) := fun o => ((Mods.refl (fun _ => False) wr).alloc o).drew
        go_region_law (refine st_same_inl rfl (.tmp 55) (.tmp 60) rfl g i n cap xs (ownsRow_keep hownr (hS _) (fun _ _ x => x)) hlt _ hxi rfl wr.heap.size 1 rfl rfl ((Blk.drew (Blk.newAt _ _ rfl)).cell 0) ?_; intro wB hmB; obtain ⟨hm2, hD2, hDc', hDf', hDl'⟩ := emph_facts (hS _) hmB hD)
        all_goals
          go_wp2_with fail
          refine Handed.intro (n - (i + 1)) (by omega) (hJ _ _ _ ⟨i + 1, (fun d => cond (Nat.ble 11 d && Nat.ble d 61) (cond (Nat.ble d 42) (cond (Nat.ble d 26) (List.getD [_, _, _, _, _, _, _, _, _, _, _, undef, _, _, _, _] (d - 11) undef) (List.getD [_, _, _, _, _, _, _, _, _, _, _, _, _, _, _, _] (d - 27) undef)) (cond (Nat.ble d 58) (List.getD [_, _, _, _, _, _, _, _, _, _, _, _, _, _, _, _] (d - 43) undef) (List.getD [_, _, _] (d - 59) undef))) (v d)), ⟨rfl, by omega, emph_end HM.out hm2 hDn, Blk.set_same hD2 0 _⟩, rfl⟩)
    · have hin : i = n := by omega
      subst hin
      have w3 : ¬ ((i : Int) < i) := by omega
      go_wp2_with fail
      go_ret
      exact ⟨rfl, HM.out⟩
end Go.Proofs.YtdnlfdppjfjncaaGreatDoor

/- inline on a text of plain bytes and escaped signs: the walk. -/
namespace Go.Proofs.YtdnlfdppjfjncaaGreatDoor
open Go Go.RowKit Go.Proofs

theorem NoPP.nil : NoPP [] := fun i s t h => by cases i <;> cases h
theorem NoPP.one (p : Pc) : NoPP [p] := fun i s t _ h => by cases i <;> cases h
theorem NoPP.piece {ps : List Pc} {pc : Pc} (ho : ∀ t, pc ≠ .plain t) (h : NoPP ps) : NoPP (pc :: ps) := fun i a b h1 h2 => by
  cases i with
  | zero => simp at h1; exact ho a h1
  | succ i => simp at h1 h2; exact h i a b h1 h2
theorem NoPP.plain {ps : List Pc} {s : ByteArray} {pc : Pc} (ho : ∀ t, pc ≠ .plain t) (h : NoPP (pc :: ps)) : NoPP (.plain s :: pc :: ps) := fun i a b h1 h2 => by
  cases i with
  | zero => simp at h2; exact ho b h2
  | succ i => simp at h1 h2; exact h i a b (by simpa using h1) (by simpa using h2)

theorem plan_alt {s : ByteArray} {k e : Nat} {r : List Pc} (h : Plan s k e r) : NoPP r := by
  induction h with
  | fin e =>
    split
    · exact NoPP.one _
    · exact NoPP.nil
  | dull _ _ _ ih => exact ih
  | piece _ _ _ pc _ _ _ _ _ _ _ ho _ ih =>
    split
    · exact NoPP.plain ho (NoPP.piece ho ih)
    · exact NoPP.piece ho ih

theorem plan_ne {s : ByteArray} {k e : Nat} {r : List Pc} (h : Plan s k e r) : e < s.size → r ≠ [] := by
  induction h with
  | fin e => intro h; rw [if_pos h]; simp
  | dull _ _ _ ih => exact ih
  | piece _ _ _ _ _ _ _ _ _ _ _ _ _ _ => intro _; simp

theorem plan_end {s : ByteArray} {e : Nat} {r : List Pc} (h : Plan s s.size e r) : r = if e < s.size then [.plain (s.extract e s.size)] else [] := by
  generalize hk : s.size = k at h
  cases h with
  | fin e => rfl
  | dull h1 _ _ => omega
  | piece h1 _ _ _ _ _ _ _ _ _ _ _ _ => omega

theorem plan_cases {s : ByteArray} {k e : Nat} {r : List Pc} (h : Plan s k e r) :
    (∃ hk : k < s.size, dull s[k] = true ∧ Plan s (k + 1) e r) ∨
    (∃ (hk : k < s.size) (fn : Nat) (pc : Pc) (st en : Nat) (r' : List Pc), Starts s[k] fn ∧ e ≤ st ∧ st ≤ k ∧ k < en ∧ en ≤ s.size ∧ PieceCall s k fn pc st en ∧ Plan s en en r' ∧ r = (if e < st then [.plain (s.extract e st)] else []) ++ pc :: r') ∨ k = s.size := by
  cases h with
  | fin e => exact Or.inr (Or.inr rfl)
  | dull h1 h2 h3 => exact Or.inl ⟨h1, h2, h3⟩
  | piece h1 fn h2 pc st en h3 h4 h5 h6 h7 _ h8 => exact Or.inr (Or.inl ⟨h1, fn, pc, st, en, _, h2, h3, h4, h5, h6, h7, h8, rfl⟩)

theorem Held.again {w0 w w' : World} {bp : Nat} {p : PSt} {s : ByteArray} {e n : Nat} {lv : Value} {xs : List Value} {pcs : List Pc} (h : Held w0 w bp p s e n lv xs pcs) (hm : Same w w') :
    Held w0 (w'.setCell ⟨bp, 9, none⟩ lv) bp p s e n lv xs pcs :=
  (h.same hm).skipped ((Mods.refl (fun k => k = bp) w').setCell (p := ⟨bp, 9, none⟩) (fun _ => rfl) _) (((h.same hm).at_).set 9 _ _ rfl (by decide))

set_option maxRecDepth 100000 in
set_option maxHeartbeats 8000000 in
theorem inline_any (bp : Nat) (p : PSt) (s : ByteArray) (w : World) (hp : PsAt w bp p) (hs : s.size ≤ 900000) (h0 : 0 < s.size) (all : List Pc) (hg : Plan s 0 0 all) (hO : Opt w p 3 false) (hpb : p.parser ≠ bp)
    (hT : Calls Tryz.prog 74 #[.string s] w fun e w' => e = .returned (.string s) ∧ w = w') :
    Calls Tryz.prog 66 #[.pointer (some ⟨bp, 0, none⟩), .string s] w fun e w' => ∃ g n cap xs, e = .returned (.slice (some ⟨g, 0, none⟩) n cap) ∧ 0 < n ∧ n ≤ s.size + 1 ∧ ∃ c, Held w w' bp { p with corner := c } s s.size n (.slice (some ⟨g, 0, none⟩) n cap) xs all := by
  have hl := hp.lt
  have f7 := hp.fr 7
  have f8 := hp.fr 8
  have f9 := hp.fr 9
  have k7 := hp.s
  have k8 := hp.emitted
  have k9 := hp.list
  go_enter Tryz.func66, Tryz.ntmps66
  go_wp2_with fail
  refine hT.mono ?_
  rintro e w' ⟨rfl, rfl⟩
  go_wp2_with fail
  generalize hW : (World.setCell _ _ _ : World) = W
  have hne := plan_ne hg h0
  have hno := plan_alt hg
  have hG : Going w W bp p s all 0 := by
    subst hW
    refine ⟨Nat.zero_le _, p.corner, 0, 0, .slice none 0 0, [], [], all, Nat.le_refl _, Nat.le_refl _, ⟨?_, ?_, ⟨rfl, Or.inl ⟨rfl, rfl⟩⟩, trivial, (fun _ h => by cases h)⟩, hg, rfl⟩
    · exact (((Mods.refl (fun b => b = bp) w).setCell (p := ⟨bp, 7, none⟩) (fun _ => rfl) _).setCell (p := ⟨bp, 9, none⟩) (fun _ => rfl) _).setCell (p := ⟨bp, 8, none⟩) (fun _ => rfl) _
    · exact ((hp.set 7 _ { p with s := s } rfl (by decide)).set 9 _ { p with s := s, list := .slice none 0 0 } rfl (by decide)).set 8 _ _ rfl (by decide)
  clear hW hT hg f7 f8 f9 k7 k8 k9 hl
  refine wp_loop_ghost_k (fun m a wr => ∃ (k : Nat) (v : Nat → Value), (m = s.size - k ∧ Going w wr bp p s all k) ∧
    a = ⟨#[.pointer (some ⟨bp, 0, none⟩), .string s, undef, undef, .slice none 0 0, .slice none 0 0, .int .i64 0, .bool false, .int .i64 k, v 9, v 10, v 11, v 12, v 13, v 14, v 15, v 16, v 17, v 18, v 19, v 20, .string s, .string s, .pointer (some ⟨bp, 0, none⟩), .string s, .pointer (some ⟨bp, 0, none⟩), .pointer (some ⟨bp, 7, none⟩), .pointer (some ⟨bp, 0, none⟩), .pointer (some ⟨bp, 0, none⟩), .pointer (some ⟨bp, 9, none⟩), .pointer (some ⟨bp, 0, none⟩), .pointer (some ⟨bp, 0, none⟩), .pointer (some ⟨bp, 8, none⟩), v 33, v 34, v 35, v 36, v 37, v 38, v 39, v 40, v 41, v 42, v 43, v 44, v 45, v 46, v 47, v 48, v 49, v 50, v 51, v 52, v 53, v 54, v 55, v 56, v 57, v 58, v 59, v 60, v 61, v 62, v 63, v 64, v 65, v 66, v 67, v 68, v 69, v 70, v 71, v 72, v 73, v 74, v 75, v 76, v 77, v 78, v 79, v 80, v 81, v 82, v 83, v 84, v 85, v 86, v 87, v 88, v 89, v 90, v 91, v 92, v 93, v 94, v 95, v 96, v 97, v 98, v 99, v 100, v 101, v 102, v 103, v 104, v 105, v 106, v 107, v 108, v 109, v 110, v 111, v 112, v 113, v 114, v 115, v 116, v 117, v 118, v 119, v 120, v 121, v 122, v 123, v 124, v 125, v 126, v 127, v 128, v 129, v 130, v 131, v 132, v 133, v 134, v 135, v 136, v 137, v 138, v 139, v 140, v 141, v 142, v 143, v 144, v 145, v 146, v 147, v 148, v 149, v 150, v 151, v 152, v 153, v 154, v 155, v 156, v 157, v 158, v 159, v 160, v 161, v 162, v 163, v 164, v 165, v 166, v 167, v 168, v 169, v 170, v 171, v 172, v 173, v 174, v 175, v 176, v 177, v 178, v 179, v 180, v 181, v 182, v 183, v 184, v 185, v 186, v 187, v 188, v 189, v 190, v 191, v 192, v 193, v 194, v 195, v 196, v 197, v 198, v 199, v 200, v 201, v 202, v 203, v 204, v 205, v 206, v 207, v 208, v 209, v 210, v 211, v 212, v 213, v 214, v 215, v 216, v 217, v 218, v 219, v 220, v 221, v 222, v 223, v 224, v 225, v 226, v 227, v 228, v 229, v 230, v 231, v 232, v 233, v 234, v 235, v 236, v 237, v 238, v 239, v 240, v 241, v 242, v 243, v 244, v 245, v 246, v 247, v 248, v 249, v 250, v 251, v 252, v 253, v 254, v 255, v 256, v 257, v 258, v 259, v 260, v 261, v 262, v 263, v 264, v 265, v 266, v 267, v 268, v 269, v 270, v 271, v 272, v 273, v 274, v 275, v 276, v 277, v 278, v 279, v 280, v 281, v 282, v 283, v 284, v 285, v 286, v 287, v 288, v 289, v 290, v 291, v 292, v 293, v 294, v 295, v 296, v 297, v 298, v 299, v 300, v 301, v 302, v 303, v 304, v 305, v 306, v 307, v 308, v 309, v 310, v 311, v 312, v 313, v 314, v 315, v 316, v 317, v 318, v 319, v 320, v 321, v 322, v 323, v 324, v 325, v 326, v 327, v 328, v 329, v 330, v 331, v 332, v 333, v 334], []⟩) s.size ⟨0, fun _ => undef, ⟨rfl, hG⟩, rfl⟩ ?_
  · intro gk a wr hinv
    obtain ⟨k, v, ⟨rfl, hG⟩, rfl⟩ := hinv
    intro J K hJ hK
    have HNE := Lib.hid hne
    have HNO := Lib.hid hno
    clear hne hno
    obtain ⟨hle, c0, e, n, lv, xs, pcs, r, he, hn, hh, hpl, hsc⟩ := hG
    rcases plan_cases hpl with ⟨hk, hd, hp2⟩ | ⟨hk, fn, pc, st, en, r', hb, h1, h2, h3, h4, hcall, hp2, hr⟩ | hk
    · have w1 : (k : Int) < s.size := by omega
      have w2 : (0 : Int) ≤ k := by omega
      have w3 : IntKind.i64.wrap ((k : Int) + 1) = (k : Int) + 1 := IntWalk.i64_in _ (by omega)
      have d1 : ((s[k].toNat : Int) == 92) = false := dull_ne hd 92 rfl
      have d2 : ((s[k].toNat : Int) == 96) = false := dull_ne hd 96 rfl
      have d3 : ((s[k].toNat : Int) == 60) = false := dull_ne hd 60 rfl
      have d4 : ((s[k].toNat : Int) == 91) = false := dull_ne hd 91 rfl
      have d5 : ((s[k].toNat : Int) == 33) = false := dull_ne hd 33 rfl
      have d6 : ((s[k].toNat : Int) == 95) = false := dull_ne hd 95 rfl
      have d7 : ((s[k].toNat : Int) == 42) = false := dull_ne hd 42 rfl
      have d8 : ((s[k].toNat : Int) == 46) = false := dull_ne hd 46 rfl
      have d9 : ((s[k].toNat : Int) == 45) = false := dull_ne hd 45 rfl
      have d10 : ((s[k].toNat : Int) == 34) = false := dull_ne hd 34 rfl
      have d11 : ((s[k].toNat : Int) == 39) = false := dull_ne hd 39 rfl
      have d12 : ((s[k].toNat : Int) == 126) = false := dull_ne hd 126 rfl
      have d13 : ((s[k].toNat : Int) == 10) = false := dull_ne hd 10 rfl
      have d14 : ((s[k].toNat : Int) == 38) = false := dull_ne hd 38 rfl
      have d15 : ((s[k].toNat : Int) == 58) = false := dull_ne hd 58 rfl
      have hG2 : Going w wr bp p s all (k + 1) := ⟨hk, c0, e, n, lv, xs, pcs, r, by omega, hn, hh, hp2, hsc⟩
      have HG2 := Lib.hid hG2
      have hE := eql_nil_nil
      clear hG2 hd hp2 hpl hsc hh
      go_wp2_with fail
      all_goals
        exact Handed.intro (s.size - (k + 1)) (by omega) (hJ _ _ _ ⟨k + 1, (fun d => cond (Nat.ble 9 d && Nat.ble d 15) (List.getD [_, _, _, _, _, _, _] (d - 9) undef) (cond (Nat.ble 33 d && Nat.ble d 165) (cond (Nat.ble d 96) (cond (Nat.ble d 64) (cond (Nat.ble d 48) (List.getD [_, _, _, _, _, _, _, _, _, _, _, _, _, _, _, _] (d - 33) undef) (List.getD [_, _, _, _, _, _, _, _, _, _, _, _, _, _, _, _] (d - 49) undef)) (cond (Nat.ble d 80) (List.getD [_, _, _, _, _, _, _, _, _, _, _, _, _, _, _, _] (d - 65) undef) (List.getD [_, _, _, _, _, _, _, _, _, _, _, _, _, _, _, _] (d - 81) undef))) (cond (Nat.ble d 128) (cond (Nat.ble d 112) (List.getD [_, _, _, _, _, _, _, _, _, _, _, _, _, _, _, _] (d - 97) undef) (List.getD [_, _, _, _, _, _, _, _, _, _, _, _, _, _, _, _] (d - 113) undef)) (cond (Nat.ble d 144) (List.getD [_, _, _, _, _, _, _, _, _, _, _, _, _, _, _, _] (d - 129) undef) (cond (Nat.ble d 160) (List.getD [_, _, _, _, _, _, _, _, _, _, _, _, _, _, _, _] (d - 145) undef) (List.getD [_, _, _, _, _] (d - 161) undef))))) (cond (Nat.ble 293 d && Nat.ble d 294) (List.getD [_, _] (d - 293) undef) (v d)))), ⟨rfl, HG2.out⟩, rfl⟩)
    · have w1 : (k : Int) < s.size := by omega
      have w2 : (0 : Int) ≤ k := by omega
      have HSC := Lib.hid hsc
      have HR := Lib.hid hr
      have HP2 := Lib.hid hp2
      have HCALL := Lib.hid hcall
      have HB := pc.bty_is
      clear hsc hr hp2 hcall hpl
      have hE := eql_func_nil
      have hO := as_openPlain_no pc
      rcases hb with ⟨hc, rfl⟩ | ⟨hc, rfl⟩ | ⟨hc, rfl⟩
      · have d1 : ((s[k].toNat : Int) == 92) = true := by rw [hc]; rfl
        clear hc
        go_wp2_with fail
        refine (HCALL.out bp _ wr hh.at_).mono ?_
        rintro e' wA ⟨b, c1, rfl, hmA, hpA, hbn, hbA⟩
        have hhA : Held w wA bp { p with corner := c1 } s e n lv xs pcs := hh.cornered hmA hpA
        clear hmA hpA hh
        go_wp2_with fail
        refine (emit_held hhA st h1 (by omega) (by omega) (by omega)).mono ?_
        rintro e' wB ⟨rfl, n', lv', xs', hn', hmB, hB⟩
        have hbB := hbA.keep hmB (pcs_safe hhA.at_ hhA.row b _ _ hbA HB)
        have hnn : n' ≤ st ∨ n' = n := by
          have e1 := hB.pcs.length
          have e2 := hB.row.1
          have e3 := hhA.pcs.length
          have e4 := hhA.row.1
          rw [List.length_append] at e1
          by_cases hlt : e < st
          · left; omega
          · rw [if_neg hlt] at e1
            right
            simp at e1
            omega
        have k9 := hB.at_.list
        have hl9 := hB.at_.lt
        clear hmB hbA hhA
        go_wp2_with (at_builtin; refine ap_inl rfl (.tmp 147) (.tmp 149) rfl lv' n' xs' rfl (hB.row.alloc _) wB.heap.size 1 _ (.pointer (some ⟨b, 0, none⟩)) rfl ((Blk.newAt _ _ rfl).cell 0) (by omega) ?_)
        intro g cap wC hown1 hgrow hloc
        obtain ⟨k9', f9', hl9'⟩ := hB.push_at hgrow
        have hP := hB.push hown1 hgrow hloc hbB
        clear hgrow hloc hown1 k9 hl9
        go_wp2_with fail
        refine (skip_any bp _ _ _ hP.at_).mono ?_
        rintro e' wD ⟨rfl, hmD, hpD⟩
        go_wp2_with fail
        exact Handed.intro (s.size - en) (by omega) (hJ _ _ _ ⟨en, (fun d => cond (Nat.ble 9 d && Nat.ble d 15) (List.getD [_, _, _, _, _, _, _] (d - 9) undef) (cond (Nat.ble 33 d && Nat.ble d 165) (cond (Nat.ble d 96) (cond (Nat.ble d 64) (cond (Nat.ble d 48) (List.getD [_, _, _, _, _, _, _, _, _, _, _, _, _, _, _, _] (d - 33) undef) (List.getD [_, _, _, _, _, _, _, _, _, _, _, _, _, _, _, _] (d - 49) undef)) (cond (Nat.ble d 80) (List.getD [_, _, _, _, _, _, _, _, _, _, _, _, _, _, _, _] (d - 65) undef) (List.getD [_, _, _, _, _, _, _, _, _, _, _, _, _, _, _, _] (d - 81) undef))) (cond (Nat.ble d 128) (cond (Nat.ble d 112) (List.getD [_, _, _, _, _, _, _, _, _, _, _, _, _, _, _, _] (d - 97) undef) (List.getD [_, _, _, _, _, _, _, _, _, _, _, _, _, _, _, _] (d - 113) undef)) (cond (Nat.ble d 144) (List.getD [_, _, _, _, _, _, _, _, _, _, _, _, _, _, _, _] (d - 129) undef) (cond (Nat.ble d 160) (List.getD [_, _, _, _, _, _, _, _, _, _, _, _, _, _, _, _] (d - 145) undef) (List.getD [_, _, _, _, _] (d - 161) undef))))) (cond (Nat.ble 293 d && Nat.ble d 294) (List.getD [_, _] (d - 293) undef) (v d)))), ⟨rfl, h4, c1, en, n' + 1, _, _, _, r', Nat.le_refl _, by omega, hP.skipped hmD hpD, HP2.out, by rw [← HSC.out, HR.out]; simp⟩, rfl⟩)
      · have d1 : ((s[k].toNat : Int) == 92) = false := by rw [hc]; rfl
        have d2 : ((s[k].toNat : Int) == 96) = false := by rw [hc]; rfl
        have d3 : ((s[k].toNat : Int) == 60) = true := by rw [hc]; rfl
        clear hc
        go_wp2_with fail
        refine (HCALL.out bp _ wr hh.at_).mono ?_
        rintro e' wA ⟨b, c1, rfl, hmA, hpA, hbn, hbA⟩
        have hhA : Held w wA bp { p with corner := c1 } s e n lv xs pcs := hh.cornered hmA hpA
        clear hmA hpA hh
        go_wp2_with fail
        refine (emit_held hhA st h1 (by omega) (by omega) (by omega)).mono ?_
        rintro e' wB ⟨rfl, n', lv', xs', hn', hmB, hB⟩
        have hbB := hbA.keep hmB (pcs_safe hhA.at_ hhA.row b _ _ hbA HB)
        have hnn : n' ≤ st ∨ n' = n := by
          have e1 := hB.pcs.length
          have e2 := hB.row.1
          have e3 := hhA.pcs.length
          have e4 := hhA.row.1
          rw [List.length_append] at e1
          by_cases hlt : e < st
          · left; omega
          · rw [if_neg hlt] at e1
            right
            simp at e1
            omega
        have k9 := hB.at_.list
        have hl9 := hB.at_.lt
        clear hmB hbA hhA
        go_wp2_with (at_builtin; refine ap_inl rfl (.tmp 147) (.tmp 149) rfl lv' n' xs' rfl (hB.row.alloc _) wB.heap.size 1 _ (.pointer (some ⟨b, 0, none⟩)) rfl ((Blk.newAt _ _ rfl).cell 0) (by omega) ?_)
        intro g cap wC hown1 hgrow hloc
        obtain ⟨k9', f9', hl9'⟩ := hB.push_at hgrow
        have hP := hB.push hown1 hgrow hloc hbB
        clear hgrow hloc hown1 k9 hl9
        go_wp2_with fail
        refine (skip_any bp _ _ _ hP.at_).mono ?_
        rintro e' wD ⟨rfl, hmD, hpD⟩
        go_wp2_with fail
        exact Handed.intro (s.size - en) (by omega) (hJ _ _ _ ⟨en, (fun d => cond (Nat.ble 9 d && Nat.ble d 15) (List.getD [_, _, _, _, _, _, _] (d - 9) undef) (cond (Nat.ble 33 d && Nat.ble d 165) (cond (Nat.ble d 96) (cond (Nat.ble d 64) (cond (Nat.ble d 48) (List.getD [_, _, _, _, _, _, _, _, _, _, _, _, _, _, _, _] (d - 33) undef) (List.getD [_, _, _, _, _, _, _, _, _, _, _, _, _, _, _, _] (d - 49) undef)) (cond (Nat.ble d 80) (List.getD [_, _, _, _, _, _, _, _, _, _, _, _, _, _, _, _] (d - 65) undef) (List.getD [_, _, _, _, _, _, _, _, _, _, _, _, _, _, _, _] (d - 81) undef))) (cond (Nat.ble d 128) (cond (Nat.ble d 112) (List.getD [_, _, _, _, _, _, _, _, _, _, _, _, _, _, _, _] (d - 97) undef) (List.getD [_, _, _, _, _, _, _, _, _, _, _, _, _, _, _, _] (d - 113) undef)) (cond (Nat.ble d 144) (List.getD [_, _, _, _, _, _, _, _, _, _, _, _, _, _, _, _] (d - 129) undef) (cond (Nat.ble d 160) (List.getD [_, _, _, _, _, _, _, _, _, _, _, _, _, _, _, _] (d - 145) undef) (List.getD [_, _, _, _, _] (d - 161) undef))))) (cond (Nat.ble 293 d && Nat.ble d 294) (List.getD [_, _] (d - 293) undef) (v d)))), ⟨rfl, h4, c1, en, n' + 1, _, _, _, r', Nat.le_refl _, by omega, hP.skipped hmD hpD, HP2.out, by rw [← HSC.out, HR.out]; simp⟩, rfl⟩)
      · have d1 : ((s[k].toNat : Int) == 92) = false := by rw [hc]; rfl
        have d2 : ((s[k].toNat : Int) == 96) = false := by rw [hc]; rfl
        have d3 : ((s[k].toNat : Int) == 60) = false := by rw [hc]; rfl
        have d4 : ((s[k].toNat : Int) == 91) = false := by rw [hc]; rfl
        have d5 : ((s[k].toNat : Int) == 33) = false := by rw [hc]; rfl
        have d6 : ((s[k].toNat : Int) == 95) = false := by rw [hc]; rfl
        have d7 : ((s[k].toNat : Int) == 42) = false := by rw [hc]; rfl
        have d8 : ((s[k].toNat : Int) == 46) = false := by rw [hc]; rfl
        have d9 : ((s[k].toNat : Int) == 45) = false := by rw [hc]; rfl
        have d10 : ((s[k].toNat : Int) == 34) = false := by rw [hc]; rfl
        have d11 : ((s[k].toNat : Int) == 39) = false := by rw [hc]; rfl
        have d12 : ((s[k].toNat : Int) == 126) = false := by rw [hc]; rfl
        have d13 : ((s[k].toNat : Int) == 10) = true := by rw [hc]; rfl
        clear hc
        go_wp2_with fail
        refine (HCALL.out bp _ wr hh.at_).mono ?_
        rintro e' wA ⟨b, c1, rfl, hmA, hpA, hbn, hbA⟩
        have hhA : Held w wA bp { p with corner := c1 } s e n lv xs pcs := hh.cornered hmA hpA
        clear hmA hpA hh
        go_wp2_with fail
        refine (emit_held hhA st h1 (by omega) (by omega) (by omega)).mono ?_
        rintro e' wB ⟨rfl, n', lv', xs', hn', hmB, hB⟩
        have hbB := hbA.keep hmB (pcs_safe hhA.at_ hhA.row b _ _ hbA HB)
        have hnn : n' ≤ st ∨ n' = n := by
          have e1 := hB.pcs.length
          have e2 := hB.row.1
          have e3 := hhA.pcs.length
          have e4 := hhA.row.1
          rw [List.length_append] at e1
          by_cases hlt : e < st
          · left; omega
          · rw [if_neg hlt] at e1
            right
            simp at e1
            omega
        have k9 := hB.at_.list
        have hl9 := hB.at_.lt
        clear hmB hbA hhA
        go_wp2_with (at_builtin; refine ap_inl rfl (.tmp 147) (.tmp 149) rfl lv' n' xs' rfl (hB.row.alloc _) wB.heap.size 1 _ (.pointer (some ⟨b, 0, none⟩)) rfl ((Blk.newAt _ _ rfl).cell 0) (by omega) ?_)
        intro g cap wC hown1 hgrow hloc
        obtain ⟨k9', f9', hl9'⟩ := hB.push_at hgrow
        have hP := hB.push hown1 hgrow hloc hbB
        clear hgrow hloc hown1 k9 hl9
        go_wp2_with fail
        refine (skip_any bp _ _ _ hP.at_).mono ?_
        rintro e' wD ⟨rfl, hmD, hpD⟩
        go_wp2_with fail
        exact Handed.intro (s.size - en) (by omega) (hJ _ _ _ ⟨en, (fun d => cond (Nat.ble 9 d && Nat.ble d 15) (List.getD [_, _, _, _, _, _, _] (d - 9) undef) (cond (Nat.ble 33 d && Nat.ble d 165) (cond (Nat.ble d 96) (cond (Nat.ble d 64) (cond (Nat.ble d 48) (List.getD [_, _, _, _, _, _, _, _, _, _, _, _, _, _, _, _] (d - 33) undef) (List.getD [_, _, _, _, _, _, _, _, _, _, _, _, _, _, _, _] (d - 49) undef)) (cond (Nat.ble d 80) (List.getD [_, _, _, _, _, _, _, _, _, _, _, _, _, _, _, _] (d - 65) undef) (List.getD [_, _, _, _, _, _, _, _, _, _, _, _, _, _, _, _] (d - 81) undef))) (cond (Nat.ble d 128) (cond (Nat.ble d 112) (List.getD [_, _, _, _, _, _, _, _, _, _, _, _, _, _, _, _] (d - 97) undef) (List.getD [_, _, _, _, _, _, _, _, _, _, _, _, _, _, _, _] (d - 113) undef)) (cond (Nat.ble d 144) (List.getD [_, _, _, _, _, _, _, _, _, _, _, _, _, _, _, _] (d - 129) undef) (cond (Nat.ble d 160) (List.getD [_, _, _, _, _, _, _, _, _, _, _, _, _, _, _, _] (d - 145) undef) (List.getD [_, _, _, _, _] (d - 161) undef))))) (cond (Nat.ble 293 d && Nat.ble d 294) (List.getD [_, _] (d - 293) undef) (v d)))), ⟨rfl, h4, c1, en, n' + 1, _, _, _, r', Nat.le_refl _, by omega, hP.skipped hmD hpD, HP2.out, by rw [← HSC.out, HR.out]; simp⟩, rfl⟩)
    · have w1 : ¬ ((k : Int) < s.size) := by omega
      have HSC := Lib.hid hsc
      have hend : pcs ++ (if e < s.size then [Pc.plain (s.extract e s.size)] else []) = all := by rw [← hsc]; rw [hk] at hpl; rw [plan_end hpl]
      have HEND := Lib.hid hend
      have HK := Lib.hid hk
      clear hsc hk hpl hend
      go_wp2_with fail
      refine (emit_held hh s.size (by have := HK.out; omega) (Nat.le_refl _) (by omega) (by omega)).mono ?_
      rintro e' wB ⟨rfl, n', lv', xs', hn', hmB, hB⟩
      rw [HEND.out] at hB
      have hn0 : 0 < n' := by
        have h1 := hB.pcs.length
        have h2 := hB.row.1
        have h4 : all.length ≠ 0 := fun h => HNE.out (List.length_eq_zero_iff.1 h)
        omega
      have hnk : n' ≤ s.size + 1 := by have := HK.out; omega
      obtain ⟨gl, cap, rfl, _, _, _⟩ := ownsRow_form hB.row hn0
      have hOB : Opt wB p 3 false := hO.keep hB.mods hpb
      have HE : ∀ W, Same wB W → Calls Tryz.prog 91 #[.pointer (some ⟨bp, 0, none⟩), .slice (some ⟨gl, 0, none⟩) 0 cap, .slice (some ⟨gl, 0, none⟩) n' cap] W fun e W' => e = .returned (.slice (some ⟨gl, 0, none⟩) n' cap) ∧ Same wB W' ∧
          W'.cell? ⟨bp, 9, none⟩ = some (.slice (some ⟨gl, 0, none⟩) n' cap) ∧ W'.frozen? ⟨bp, 9, none⟩ = false ∧ bp < W'.heap.size := fun W hW =>
        (emph_id _ gl n' cap xs' _ W (hB.same hW).row (hB.same hW).pcs (by omega)).mono fun e W' ⟨h1, h2⟩ =>
          ⟨h1, hW.trans h2, (hB.same (hW.trans h2)).at_.list, (hB.same (hW.trans h2)).at_.fr 9, (hB.same (hW.trans h2)).at_.lt⟩
      have k9 := hB.at_.list
      have f9 := hB.at_.fr 9
      have hl9 := hB.at_.lt
      have hcap : (0 : Int) ≤ cap := by omega
      have hS0 : Same wB wB := Mods.refl _ _
      go_wp2_with fail
      go_region_with ((go_at_call 91; refine (HE _ (by repeat (first | assumption | apply Mods.drew))).mono ?_; rintro e' wC ⟨rfl, hmC, k9', f9', hl9'⟩))
      all_goals
        have hC := hB.again hmC
        generalize (World.setCell wC _ _ : World) = wD at hC ⊢
        clear k9' f9' hl9' k9 f9 hl9
        have k9 := hC.at_.list
        have f9 := hC.at_.fr 9
        have hl9 := hC.at_.lt
        go_wp2_with fail
        refine (mergePlain_id _ gl n' cap xs' _ wD hC.row hC.pcs HNO.out (by omega)).mono ?_
        rintro e' wE ⟨rfl, hmE⟩
        have hE2 := hC.same hmE
        clear k9 f9 hl9
        have k9 := hE2.at_.list
        have f9 := hE2.at_.fr 9
        have hl9 := hE2.at_.lt
        go_wp2_with fail
        have hF := hC.again hmE
        generalize (World.setCell wE _ _ : World) = wF at hF ⊢
        have hOF : Opt wF p 3 false := hO.keep hF.mods hpb
        refine (autoLinkText_off bp _ _ wF hF.at_ hOF).mono ?_
        rintro e' wG ⟨rfl, rfl⟩
        clear k9 f9 hl9
        have k9 := hF.at_.list
        have f9 := hF.at_.fr 9
        have hl9 := hF.at_.lt
        go_wp2_with fail
        go_ret
        exact ⟨gl, n', cap, xs', rfl, hn0, hnk, c0, hF.again (Mods.refl _ _)⟩
end Go.Proofs.YtdnlfdppjfjncaaGreatDoor

/- trimSpaceTab of a text that neither begins nor ends with white space. -/
namespace Go.Proofs.YtdnlfdppjfjncaaGreatDoor
open Go Go.RowKit Go.Proofs

theorem ext_all (s : ByteArray) : s.extract 0 s.size = s := by simp

set_option maxHeartbeats 2000000 in
theorem trimSpaceTab_id (s : ByteArray) (w : World) (hs : s.size ≤ 1000000) (h0 : 0 < s.size) (h1 : isW s[0] = false) (h2 : isW (s[s.size - 1]'(by omega)) = false) :
    Calls Tryz.prog 74 #[.string s] w fun e w' => e = .returned (.string s) ∧ w = w' := by
  obtain ⟨a1, a2⟩ := isW_no h1
  obtain ⟨b1, b2⟩ := isW_no h2
  clear h1 h2
  have w1 : (0 : Int) < s.size := by omega
  have w2 : IntKind.i64.wrap ((s.size : Int) - 1) = (s.size : Int) - 1 := IntWalk.i64_in _ (by omega)
  have w3 : (0 : Int) ≤ (s.size : Int) - 1 := by omega
  have w4 : ((s.size : Int) - 1).toNat = s.size - 1 := by omega
  have w5 : (s.size : Int) - 1 < s.size := by omega
  have he := ext_all s
  go_enter Tryz.func74, Tryz.ntmps74
  go_wp2_with fail
  go_loopg [3] 0 (fun k v wr => v = .int .i64 0 ∧ w = wr)
  case atStart => exact ⟨rfl, rfl⟩
  case round =>
    obtain ⟨rfl, rfl⟩ := hrel
    go_wp2_with fail
    go_loopg [4] 0 (fun k v wr => v = .int .i64 s.size ∧ w = wr)
    case atStart => exact ⟨rfl, rfl⟩
    case round =>
      obtain ⟨rfl, rfl⟩ := hrel
      go_wp2_with fail
      go_ret
      exact ⟨rfl, rfl⟩
end Go.Proofs.YtdnlfdppjfjncaaGreatDoor

/- (*Parser).parse of one line of plain bytes and escaped signs. -/
namespace Go.Proofs.YtdnlfdppjfjncaaGreatDoor
open Go Go.RowKit Go.Proofs

/-- The parser's options. -/
structure Off (w : World) (pp : Nat) : Prop where
  lt : pp < w.heap.size
  ex : ∃ cs, Blk w pp cs 76 ∧ (∀ k, k < 10 → cs[k]? = some (.bool false))

theorem Off.opt {w : World} {pp : Nat} (h : Off w pp) {p : PSt} (hp : p.parser = pp) (k : Nat) (hk : k < 10) : Opt w p k false := by
  obtain ⟨cs, h1, h2⟩ := h.ex
  exact ⟨cs, by rw [hp]; exact h1, h2 k hk⟩
theorem Off.same {w w' : World} {pp : Nat} (h : Off w pp) (hm : Same w w') : Off w' pp := by
  obtain ⟨cs, h1, h2⟩ := h.ex
  exact ⟨Nat.lt_of_lt_of_le h.lt hm.size, cs, hm.blk h1, h2⟩

/-- A line as FnEscaped writes it. -/
structure OneLine (s : ByteArray) : Prop where
  pos : 0 < s.size
  small : s.size ≤ 900000
  first : isW s[0] = false
  last : isW (s[s.size - 1]'(by omega)) = false
  no0 : ∀ i (hi : i < s.size), s[i] ≠ 0
  no10 : ∀ i (hi : i < s.size), s[i] ≠ 10
  no13 : ∀ i (hi : i < s.size), s[i] ≠ 13
  no91 : s[0] ≠ 91
  no9 : ∀ i (hi : i < s.size), s[i] ≠ 9
  begins : Begins s 0

theorem trimL_id {s : ByteArray} (h0 : 0 < s.size) (h : isW s[0] = false) : trimL (s.extract 0 s.size) = s := by
  have he := ext_all s
  rw [he]
  unfold trimL
  have : ws s 0 = 0 := by rw [ws, dif_pos h0, h]; rfl
  rw [this, he]
theorem blankAt_id {s : ByteArray} (h0 : 0 < s.size) (h : isW s[0] = false) : blankAt s 0 = false := by
  unfold blankAt
  rw [trimL_id h0 h]
  exact bs_ne h0

def p0 (pp : Nat) : PSt := ⟨pp, .pointer none, .map none, 0, .slice none 0 0, -1, false, ⟨#[]⟩, 0, .slice none 0 0, .slice none 0 0, .slice none 0 0⟩

/-- The parse state when the line has been read. -/
def p2 (pp g cap : Nat) : PSt := { p0 pp with lineno := 1, depth := 0, stack := .slice (some ⟨g, 0, none⟩) (0 + 2) cap }

/-- What stands of the document when both blocks are closed. -/
structure TwoClosed (w w' : World) (bp g cap pp : Nat) (s : ByteArray) : Prop where
  mods : Mods (fun k => k = bp ∨ k = g) w w'
  ex : ∃ rk pk tb tg tc ig ic, w.heap.size ≤ rk ∧ w.heap.size ≤ pk ∧ w.heap.size ≤ tb ∧
    Blk w' rk #[.int .i64 0, .int .i64 0, .slice (some ⟨ig, 0, none⟩) 1 ic, .map none] 339 ∧
    Blk w' pk #[.int .i64 1, .int .i64 1, .pointer (some ⟨tb, 0, none⟩)] 155 ∧
    Blk w' tb #[.int .i64 1, .int .i64 1, .slice none 0 0, .string s] 110 ∧
    PsAt w' bp { p2 pp g cap with texts := .slice (some ⟨tg, 0, none⟩) 1 tc, stack := .slice (some ⟨g, 0, none⟩) 0 cap, root := .pointer (some ⟨rk, 0, none⟩) } ∧
    w'.ownsRow 0 105 1 (.slice (some ⟨tg, 0, none⟩) 1 tc) 1 [.pointer (some ⟨tb, 0, none⟩)] ∧
    w'.ownsRow 0 68 1 (.slice (some ⟨ig, 0, none⟩) 1 ic) 1 [.iface 153 (.pointer (some ⟨pk, 0, none⟩))]

theorem closed_two (bp g cap bb pp : Nat) (tv : Value) (s : ByteArray) (v : Option Addr) (w : World) (hp : PsAt w bp (p2 pp g cap))
    (hown : w.ownsRow 0 121 4 (.slice (some ⟨g, 0, none⟩) (0 + 2) cap) (0 + 2) ([.iface 98 (.pointer v), .slice none 0 0, .int .i64 0, .int .i64 0] ++ [.iface 162 (.pointer (some ⟨bb, 0, none⟩)), .slice none 0 0, .int .i64 1, .int .i64 1]))
    (hB : Blk w bb #[tv, .pointer none] 166) (htv : w.ownsRow 0 9 1 tv 1 [.string s]) (hs : OneLine s) :
    Calls Tryz.prog 65 #[.pointer (some ⟨bp, 0, none⟩), .int .i64 0] w fun e w' => e = .returned (.tuple #[]) ∧ TwoClosed w w' bp g cap pp s := by
  have hs6 : s.size ≤ 1000000 := by have := hs.small; omega
  obtain ⟨gt, ct, rfl, _, _, hc⟩ := ownsRow_form htv (by omega)
  have hc0 := hc 0 _ rfl
  have hJ : ∀ W, Same w W → Calls Tryz.prog 29 #[.slice (some ⟨gt, 0, none⟩) 1 ct, .string ⟨#[10]⟩] W fun e W' => e = .returned (.string s) ∧ Same W W' := fun W hW =>
    (join_one gt ct s ⟨#[10]⟩ W ((World.cell?_of_block (hW.block gt (World.block_lt_of_cell? _ _ hc0) (fun x => x))).trans hc0)).mono fun e W' ⟨h1, h2⟩ => ⟨h1, by rw [← h2]; exact Mods.refl _ _⟩
  have h91 := hs.no91
  have h10 := hs.no10 0 hs.pos
  have h9 := hs.no9 0 hs.pos
  have h32 : s[0]'hs.pos ≠ 32 := by intro h; have := hs.first; rw [h] at this; cases this
  have hcl := closePara bp bb g 0 cap 0 0 (p2 pp g cap) [] [] [] (.iface 98 (.pointer v)) (.slice none 0 0) (.slice none 0 0) _ 0 0 1 1 1 s w hp rfl (by omega) hown ⟨rfl, Or.inl ⟨rfl, rfl⟩⟩ (by omega) hB ⟨_, _, rfl⟩ (by omega)
    ⟨rfl, Or.inl ⟨rfl, rfl⟩⟩ (by omega) hJ hs.pos hs6 h32 h9 h10 h91 (by omega) (by omega)
  have hgen := trimStack_gen bp 0 (fun k W => match k with
    | 2 => W = w
    | 1 => ∃ u, ParaClosed w W bp g 0 cap 0 0 (p2 pp g cap) [] [] [] (.iface 98 (.pointer v)) (.slice none 0 0) 0 0 1 (1 + (1 : Nat) - 1) s u
    | 0 => TwoClosed w W bp g cap pp s
    | _ => False) (by omega) ?_ ?_ 2 w rfl
  · exact hgen
  · intro k W hP
    match k, hP with
    | 2, hP => subst hP; exact ⟨by omega, _, _, hp.stack⟩
    | 1, ⟨u, hPC⟩ =>
      obtain ⟨pk, tb, tg, tc, ig, ic, _, _, _, _, _, h, _⟩ := hPC.ex
      exact ⟨by omega, _, _, h.stack⟩
    | 0, hP =>
      obtain ⟨rk, pk, tb, tg, tc, ig, ic, _, _, _, _, _, _, h, _⟩ := hP.ex
      exact ⟨by omega, _, _, h.stack⟩
  · intro k W hP
    match k, hP with
    | 1, hP => subst hP; exact hcl.mono fun e w' ⟨v1, h1, h2⟩ => ⟨v1, h1, v1, h2⟩
    | 0, ⟨u, hPC⟩ =>
      obtain ⟨pk, tb, tg, tc, ig, ic, _, hpk, htb, hPb, hTb, hps, htx, hrow, hin⟩ := hPC.ex
      refine (closeRoot bp g cap _ v (some ⟨ig, 0, none⟩) 1 ic none 0 0 W hps rfl hrow rfl).mono ?_
      rintro e W' ⟨u', rfl, hm, rk, hrk, hR, hps'⟩
      have h1 := hPC.mods.size
      have hne : ∀ {b : Nat} {cs : Array Value} {T : Nat}, Blk W b cs T → T ≠ 95 → ¬ (b = bp) := fun h hT => by
        obtain ⟨tail, htl⟩ := id hps
        exact h.ne_of_type htl hT
      refine ⟨u', rfl, ?_, rk, pk, tb, tg, tc, ig, ic, by omega, hpk, htb, hR, hPb.keep hm (hne hPb (by decide)), hTb.keep hm (hne hTb (by decide)), hps', ?_, ?_⟩
      · refine (hPC.mods.mono (fun k _ h => ?_)).trans (hm.mono (fun _ _ h => Or.inl h))
        rcases h with h | h | h | h
        · exact Or.inl h
        · exact Or.inr h
        · cases h
        · cases h
      · exact ownsRow_keep htx hm (fun k hk x => own_ne_ps htx hps (by decide) (by rw [← x]; exact hk))
      · exact ownsRow_keep hin hm (fun k hk x => own_ne_ps hin hps (by decide) (by rw [← x]; exact hk))

/-- The document of one paragraph of one line. -/
structure DocAt (w w' : World) (bp rk pp : Nat) (s : ByteArray) (all : List Pc) : Prop where
  mods : Same w w'
  ps : ∃ q : PSt, PsAt w' bp q ∧ q.root = .pointer (some ⟨rk, 0, none⟩)
  ex : ∃ pk tb ig ic gl n lc xs x y x2 y2, Blk w' rk #[.int .i64 x, .int .i64 y, .slice (some ⟨ig, 0, none⟩) 1 ic, .map none] 339 ∧
    w'.ownsRow 0 68 1 (.slice (some ⟨ig, 0, none⟩) 1 ic) 1 [.iface 153 (.pointer (some ⟨pk, 0, none⟩))] ∧
    Blk w' pk #[.int .i64 x2, .int .i64 y2, .pointer (some ⟨tb, 0, none⟩)] 155 ∧
    Blk w' tb #[.int .i64 x2, .int .i64 y2, .slice (some ⟨gl, 0, none⟩) n lc, .string s] 110 ∧
    0 < n ∧ n ≤ s.size + 1 ∧ w'.ownsRow 0 132 1 (.slice (some ⟨gl, 0, none⟩) n lc) n xs ∧ PcsAt w' xs (all)

theorem DocAt.same {w w1 w2 : World} {bp rk pp : Nat} {s : ByteArray} {all : List Pc} (h : DocAt w w1 bp rk pp s all) (hm : Same w1 w2) : DocAt w w2 bp rk pp s all := by
  obtain ⟨h1, ⟨q, hq, hq1⟩, pk, tb, ig, ic, gl, n, lc, xs, x, y, x2, y2, a1, a2, a3, a4, a5, a6, a7, a8⟩ := h
  exact ⟨h1.trans hm, ⟨q, hq.same hm, hq1⟩, pk, tb, ig, ic, gl, n, lc, xs, x, y, x2, y2, hm.blk a1, ownsRow_keep a2 hm (fun _ _ x => x), hm.blk a3, hm.blk a4, a5, a6, ownsRow_keep a7 hm (fun _ _ x => x), a8.keep hm (fun _ _ _ _ _ x => x)⟩

theorem docAt_mk {w w3 w4 : World} {x y x2 y2 : Int} {bp rk pk tb ig ic gl n lc pp : Nat} {q q1 : PSt} {s : ByteArray} {xs : List Value} {all : List Pc} (hm : Same w w3) (hbp : w.heap.size ≤ bp) (htb : w.heap.size ≤ tb) (hps : PsAt w3 bp q)
    (hR : Blk w3 rk #[.int .i64 x, .int .i64 y, .slice (some ⟨ig, 0, none⟩) 1 ic, .map none] 339) (hPk : Blk w3 pk #[.int .i64 x2, .int .i64 y2, .pointer (some ⟨tb, 0, none⟩)] 155)
    (hT : Blk w3 tb #[.int .i64 x2, .int .i64 y2, .slice none 0 0, .string s] 110) (hin : w3.ownsRow 0 68 1 (.slice (some ⟨ig, 0, none⟩) 1 ic) 1 [.iface 153 (.pointer (some ⟨pk, 0, none⟩))])
    (hH : Held w3 w4 bp q1 s s.size n (.slice (some ⟨gl, 0, none⟩) n lc) xs (all)) (hn0 : 0 < n) (hn1 : n ≤ s.size + 1) (hq1 : q1.root = .pointer (some ⟨rk, 0, none⟩)) :
    DocAt w (w4.setCell ⟨tb, 2, none⟩ (.slice (some ⟨gl, 0, none⟩) n lc)) bp rk pp s all := by
  obtain ⟨tail, htl⟩ := id hps
  have hT4 := hT.keep1 hH.mods (hT.ne_of_type htl (by decide))
  have hm5 : Mods (fun k => k = tb) w4 (w4.setCell ⟨tb, 2, none⟩ (.slice (some ⟨gl, 0, none⟩) n lc)) := (Mods.refl (fun k => k = tb) w4).setCell (p := ⟨tb, 2, none⟩) (fun _ => rfl) _
  have hin4 := ownsRow_keep hin hH.mods (fun k hk x => own_ne_ps hin hps (by decide) (by rw [← x]; exact hk))
  have hne : ∀ {b : Nat} {cs : Array Value} {T : Nat}, Blk w4 b cs T → T ≠ 110 → b ≠ tb := fun h hT => h.ne_of_type hT4 hT
  refine ⟨?_, ⟨_, hH.at_.set_other (a := ⟨tb, 2, none⟩) (hT.ne_of_type htl (by decide)) _, hq1⟩, pk, tb, ig, ic, gl, n, lc, xs, x, y, x2, y2, ?_, ?_, ?_, hT4.set_same 2 _, hn0, hn1, ?_, ?_⟩
  · exact (hm.then hH.mods (fun b hb h => by omega)).then hm5 (fun b hb h => by omega)
  · exact (hR.keep1 hH.mods (hR.ne_of_type htl (by decide))).keep1 hm5 (hne (hR.keep1 hH.mods (hR.ne_of_type htl (by decide))) (by decide))
  · exact ownsRow_keep hin4 hm5 (fun k hk x => own_ne hin4 hT4 (by decide) (by rw [← x]; exact hk))
  · exact (hPk.keep1 hH.mods (hPk.ne_of_type htl (by decide))).keep1 hm5 (hne (hPk.keep1 hH.mods (hPk.ne_of_type htl (by decide))) (by decide))
  · exact ownsRow_keep hH.row hm5 (fun k hk x => own_ne hH.row hT4 (by decide) (by rw [← x]; exact hk))
  · exact hH.pcs.keep hm5 (fun b cs T hb hTT x => by
      refine hne hb ?_ x
      exact hTT.ne (by decide) (by decide) (by decide) (by decide) (by decide))

set_option maxRecDepth 100000 in
set_option maxHeartbeats 8000000 in
theorem parse_line (pp : Nat) (s : ByteArray) (w : World) (hs : OneLine s) (all : List Pc) (hg : Plan s 0 0 all) (hO : Off w pp) :
    Calls Tryz.prog 51 #[.pointer (some ⟨pp, 0, none⟩), .string s] w fun e w' => ∃ bp rk c, e = .returned (.tuple #[.pointer (some ⟨rk, 0, none⟩), .bool c]) ∧ DocAt w w' bp rk pp s all := by
  have hs6 : s.size ≤ 1000000 := by have := hs.small; omega
  have i0 := idx1_none hs.no0
  have i10 := idx1_none hs.no10
  have i13 := idx1_none hs.no13
  go_enter Tryz.func51, Tryz.ntmps51
  go_wp2_with fail
  refine (zzContains_any s 0 _ hs6).mono ?_
  rintro e w' ⟨rfl, rfl⟩
  rw [i0]
  generalize hW : (World.alloc _ _ : World) = W
  have hm0 : Same w W := by subst hW; exact (Mods.refl _ w).alloc _
  have hp0 : PsAt W w.heap.size { p0 pp with depth := 0 } := by
    subst hW
    exact ⟨Tryz.zeroCells95.toList.drop 12, Blk.newAt _ _ rfl⟩
  clear hW
  generalize hbp : w.heap.size = bp at *
  have hO0 := hO.same hm0
  have k5 := hp0.depth
  have f5 := hp0.fr 5
  have hbl := hp0.lt
  go_wp2_with fail
  generalize hX : (World.alloc (World.setCell _ _ _) _ : World) = X
  have hmX : Same w X := by
    subst hX
    exact (hm0.setCell (p := ⟨bp, 5, none⟩) (fun h => absurd h (Nat.not_lt.2 (Nat.le_of_eq hbp))) _).alloc _
  have hpX : PsAt X bp (p0 pp) := by
    subst hX
    exact PsAt.alloc (hp0.set 5 (.int .i64 (-1)) (p0 pp) rfl (by decide)) _
  clear hX
  refine (addBlock_any bp 0 0 none (p0 pp) _ (.pointer (some ⟨W.heap.size, 0, none⟩)) [] (-1) X hpX rfl (by omega) rfl rfl ⟨rfl, Or.inl ⟨rfl, rfl⟩⟩ (fun g h => by cases h) rfl).mono ?_
  rintro e w1 ⟨rfl, hm1, g, cap, hp1, hown1, hgl1⟩
  have hmw1 : Same w w1 := hmX.then hm1 (fun b hb h => by
    rcases h with h | h
    · omega
    · cases h)
  have e0 : s.toList.isEmpty = false := bs_ne hs.pos
  have e0' : (!s.toList.isEmpty) = true := by rw [e0]; rfl
  clear k5 f5 hbl
  go_wp2_with fail
  go_loopg [1] 1 (fun k v1 wr => (k = 1 ∧ v1 = .string s ∧ wr = w1) ∨ (k = 0 ∧ v1 = .string ⟨#[]⟩ ∧ ParaNew w1 wr bp { p0 pp with lineno := 1, stack := .slice (some ⟨g, 0, none⟩) 1 cap, depth := 0 } 0 [.iface 98 (.pointer (some ⟨W.heap.size, 0, none⟩)), .slice none 0 0, .int .i64 0, .int .i64 0] s))
  case atStart => exact Or.inl ⟨rfl, rfl, rfl⟩
  case round =>
    rcases hrel with ⟨rfl, rfl, rfl⟩ | ⟨rfl, rfl, hPN⟩
    · go_wp2_with fail
      refine (zzIndex_any s 10 _ hs6).mono ?_
      rintro e w' ⟨rfl, rfl⟩
      rw [i10]
      go_wp2_with fail
      refine (zzIndex_any s 13 _ hs6).mono ?_
      rintro e w' ⟨rfl, rfl⟩
      rw [i13]
      have k3 : wr.cell? ⟨bp, 3, none⟩ = some (.int .i64 0) := hp1.lineno
      have f3 := hp1.fr 3
      have hbl := hp1.lt
      go_wp2_with fail
      generalize hY : (World.setCell wr _ _ : World) = Y
      have hmY : Mods (fun k => k = bp) wr Y := by subst hY; exact (Mods.refl (fun k => k = bp) wr).setCell (p := ⟨bp, 3, none⟩) (fun _ => rfl) _
      have hpY : PsAt Y bp { p0 pp with lineno := 1, stack := .slice (some ⟨g, 0, none⟩) 1 cap } := by subst hY; exact hp1.set 3 _ _ rfl (by decide)
      clear hY k3 f3 hbl
      have hownY := ownsRow_keep hown1 hmY (fun k hk x => own_ne_ps hown1 hp1 (by decide) (by rw [← x]; exact hk))
      have hOY := (hO.same hmw1)
      have hppb : pp ≠ bp := by have := hO.lt; omega
      have hOYo : Opt Y { p0 pp with lineno := 1, stack := .slice (some ⟨g, 0, none⟩) 1 cap } 5 false := (hOY.opt rfl 5 (by omega)).keep hmY hppb
      have hNP : NoPara Y bp g 0 cap { p0 pp with lineno := 1, stack := .slice (some ⟨g, 0, none⟩) 1 cap } 98 (.pointer (some ⟨W.heap.size, 0, none⟩)) :=
        ⟨hpY, rfl, by omega, (row_cells (n := 0) (l := []) hownY).1, by decide⟩
      refine (addLine_first bp g cap _ _ _ _ s 0 Y hNP hs6 (blankAt_id hs.pos hs.first) hOYo hownY hppb (fun V hV => triesNo_begins bp g 0 cap _ _ _ s 0 0 V hV rfl (by decide) (Nat.zero_le _) ⟨hs6, hs.no9⟩ hs.begins)).mono ?_
      rintro e w2 ⟨rfl, hPN⟩
      rw [trimL_id hs.pos hs.first] at hPN
      go_wp2_with fail
      go_roundg 0
      case measure => omega
      case rel => exact Or.inr ⟨rfl, rfl, ⟨(hmY.mono (fun _ _ h => Or.inl h)).trans hPN.mods, by obtain ⟨g', c', bb, tv, a1, a2, a3, a4, a5, a6, a7⟩ := hPN.ex; exact ⟨g', c', bb, tv, a1, a2, a3, a4, Nat.le_trans hmY.size a5, fun hlt => a6 (Nat.lt_of_lt_of_le hlt hmY.size), fun k hk => Nat.le_trans hmY.size (a7 k hk)⟩⟩⟩
    · go_wp2_with fail
      obtain ⟨hm2, g2, cap2, bb, tv, hp2, hown2, hB2, htv2, hbb, hg2, _⟩ := hPN
      refine (closed_two bp g2 cap2 bb pp tv s (some ⟨W.heap.size, 0, none⟩) wr hp2 hown2 hB2 htv2 hs).mono ?_
      rintro e w3 ⟨rfl, hTw⟩
      have hXs := hmX.size
      have hgw : w.heap.size ≤ g := by
        by_cases h : g < X.heap.size
        · cases hgl1 h
        · omega
      have hg2w : w.heap.size ≤ g2 := by
        by_cases h : g2 < w1.heap.size
        · have := hg2 h
          cases this
          exact hgw
        · have := hmw1.size; omega
      have hmw2 : Same w wr := hmw1.then hm2 (fun b hb h => by
        rcases h with h | h
        · omega
        · have hh : g = b := Option.some.inj h
          omega)
      have hmw3 : Same w w3 := hmw2.then hTw.mods (fun b hb h => by omega)
      have hrs := hmw2.size
      obtain ⟨rk, pk, tb, tg, tc, ig, ic, hrk, hpk, htb, hR, hPk, hT, hps, htx, hin⟩ := hTw.ex
      clear hp1 hown1 hgl1 hm1 hpX hmX hp0 hm0 hown2 hB2 htv2 hp2 hTw
      have k11 := hps.texts
      go_wp2_with fail
      go_loopg [83] 1 (fun k v83 wr2 => (k = 1 ∧ v83 = .int .i64 0 ∧ wr2 = w3) ∨ (k = 0 ∧ v83 = .int .i64 1 ∧ DocAt w wr2 bp rk pp s all))
      case atStart => exact Or.inl ⟨rfl, rfl, rfl⟩
      case round =>
        rcases hrel with ⟨rfl, rfl, rfl⟩ | ⟨rfl, rfl, hDA⟩
        · obtain ⟨_, _, he, _, _, hc⟩ := ownsRow_form htx (by omega)
          cases he
          have t0 := hc 0 _ rfl
          have r3 := hT.cell 3
          go_wp2_with fail
          have hOw : Opt wr _ 3 false := (hO.same hmw3).opt (p := { p2 pp g2 cap2 with texts := .slice (some ⟨tg, 0, none⟩) 1 tc, stack := .slice (some ⟨g2, 0, none⟩) 0 cap2, root := .pointer (some ⟨rk, 0, none⟩) }) rfl 3 (by omega)
          refine (inline_any bp _ s wr hps hs.small hs.pos all hg hOw (by have := hO.lt; show pp ≠ bp; omega) (trimSpaceTab_id s wr hs6 hs.pos hs.first hs.last)).mono ?_
          rintro e w4 ⟨gl, n, lc, xs, rfl, hn0, hn1, c4, hH⟩
          have hTne : tb ≠ bp := by
            obtain ⟨tail, htl⟩ := id hps
            exact hT.ne_of_type htl (by decide)
          have hT4 := hT.keep1 hH.mods hTne
          have c2 : w4.cell? ⟨tb, 2, none⟩ = some (.slice none 0 0) := hT4.cell 2
          have f2 := hT4.fr 2
          have l2 := hT4.lt
          go_wp2_with fail
          go_roundg 0
          case measure => omega
          case rel => exact Or.inr ⟨rfl, rfl, docAt_mk hmw3 (by omega) (by omega) hps hR hPk hT hin hH hn0 hn1 rfl⟩
        · have hoff := (hO.same hDA.mods).opt (p := p0 pp) rfl 2 (by omega)
          have o2 : wr.cell? ⟨pp, 2, none⟩ = some (.bool false) := hoff.cell
          obtain ⟨q, hq, hq1⟩ := id hDA.ps
          have k1 := hq.root
          have k6 := hq.corner
          rw [hq1] at k1
          go_wp2_with fail
          go_quiet (fail)
          go_wp2_with fail
          go_ret2
          exact ⟨bp, rk, _, rfl, hDA.same ((Mods.refl _ wr).drewN nq)⟩

theorem parser_Parse (pp : Nat) (s : ByteArray) (w : World) (hs : OneLine s) (all : List Pc) (hg : Plan s 0 0 all) (hO : Off w pp) :
    Calls Tryz.prog 39 #[.pointer (some ⟨pp, 0, none⟩), .string s] w fun e w' => ∃ bp rk, e = .returned (.pointer (some ⟨rk, 0, none⟩)) ∧ DocAt w w' bp rk pp s all := by
  go_enter Tryz.func39, Tryz.ntmps39
  go_wp2_with fail
  refine (parse_line pp s w hs all hg hO).mono ?_
  rintro e w' ⟨bp, rk, c, rfl, hD⟩
  go_wp2_with fail
  go_ret
  exact ⟨bp, rk, rfl, hD⟩
end Go.Proofs.YtdnlfdppjfjncaaGreatDoor

/- impl.parser; the table of the HTML escaper; Document, Paragraph and Text to HTML. -/
namespace Go.Proofs.YtdnlfdppjfjncaaGreatDoor
open Go Go.RowKit Go.Proofs

/-- The table of the escaper, as it lies in memory. -/
def escCells : Array Value := #[.string ⟨#[34]⟩, .string ⟨#[38, 113, 117, 111, 116, 59]⟩, .string ⟨#[38]⟩, .string ⟨#[38, 97, 109, 112, 59]⟩, .string ⟨#[60]⟩, .string ⟨#[38, 108, 116, 59]⟩, .string ⟨#[62]⟩, .string ⟨#[38, 103, 116, 59]⟩]

theorem htmlEscaper_any (w : World) :
    Calls Tryz.prog 265 #[] w fun e w' => e = .returned (.slice (some ⟨w.heap.size, 0, none⟩) 8 8) ∧ w' = w.alloc (.cells escCells 9) := by
  go_enter Tryz.func265, Tryz.ntmps265
  go_wp2_with fail
  go_ret
  exact ⟨rfl, rfl⟩

/-- What escaping makes of one byte. -/
def escB (c : UInt8) : List UInt8 := if c = 34 then [38, 113, 117, 111, 116, 59] else if c = 38 then [38, 97, 109, 112, 59] else if c = 60 then [38, 108, 116, 59] else if c = 62 then [38, 103, 116, 59] else [c]

theorem impl_parser (w : World) :
    Calls Tryz.prog 38 #[.agg #[.bool false, .bool false, .bool false, .bool false, .bool false, .bool false, .bool false, .bool false, .bool false, .bool false]] w fun e w' => ∃ pp, e = .returned (.pointer (some ⟨pp, 0, none⟩)) ∧ Same w w' ∧ w.heap.size ≤ pp ∧ Off w' pp := by
  go_enter Tryz.func38, Tryz.ntmps38
  go_wp2_with fail
  go_ret
  refine ⟨w.heap.size + 1, rfl, ((Mods.refl _ w).alloc _).alloc _, by omega, ⟨by simp, _, Blk.newAt (n := w.heap.size + 1) _ _ (by simp), fun k hk => ?_⟩⟩
  have : k = 0 ∨ k = 1 ∨ k = 2 ∨ k = 3 ∨ k = 4 ∨ k = 5 ∨ k = 6 ∨ k = 7 ∨ k = 8 ∨ k = 9 := by omega
  rcases this with rfl | rfl | rfl | rfl | rfl | rfl | rfl | rfl | rfl | rfl <;> rfl
end Go.Proofs.YtdnlfdppjfjncaaGreatDoor

/-
  DERIVED: THE SHELF's CONTRACTS AT THIS DUMP, IN PLAIN WORDS (tools/lay-plain.mjs out of 'TryzShelf.lean', which tools/lay-shelf.mjs wrote): THE SAME DECLARATIONS UNDER THE SAME NAMES: 'import', 'namespace', 'open', 'def', 'theorem' AND NOTHING ELSE: no command of the shelf's: FOR A HAND-IN. Each laying: the table of numbers ('.._ren') and one theorem, a field a fact of the dump's own or the kernel's comparison; each contract: ONE APPLICATION.
-/
namespace Go.Proofs
open Go.Shelf
def Tryz.lays170_ren : Go.Shelf.Ren := ⟨fun | 170 => 48 | n => n, fun | 70 => 53 | 3 => 3 | 0 => 0 | 72 => 55 | 37 => 35 | 5 => 5 | n => n, fun | n => n⟩
theorem Tryz.lays170 : Go.Proofs.Lays.n170 Tryz.prog Tryz.lays170_ren := {
  mixed := by kernel_rfl
  f170 := Tryz.func48.trans (congrArg some (by kernel_rfl))
  t0 := Tryz.underlying0
  a0 := Tryz.isAgg0
  z0 := Tryz.sizeOf0
  v0 := Tryz.zeroValue0
  t3 := Tryz.underlying3
  a3 := Tryz.isAgg3
  z3 := Tryz.sizeOf3
  v3 := Tryz.zeroValue3
  t37 := Tryz.underlying35
  a37 := Tryz.isAgg35
  z37 := Tryz.sizeOf35
  v37 := Tryz.zeroValue35
  t70 := Tryz.underlying53
  a70 := Tryz.isAgg53
  z70 := Tryz.sizeOf53
  v70 := Tryz.zeroValue53
  t72 := Tryz.underlying55
  a72 := Tryz.isAgg55
  z72 := Tryz.sizeOf55
  v72 := Tryz.zeroValue55 }
open Go.RowKit in
/-- (*strings.Builder).Len: "Len returns the number of accumulated bytes; b.Len() == len(b.String()).": the world is as it was. (LAID: no walk: one application.) -/
theorem Tryz.Builder_Len (B b : Nat) (bs : List Value) (w : World) (h : Lib.IsBuilder 55 5 B b bs w) :
    Calls Tryz.prog 48 #[.pointer (some ⟨b, 0, none⟩)] w fun e w' => e = .returned (.int .i64 bs.length) ∧ w' = w := Any.Builder_Len Tryz.lays170 B b bs w h
def Tryz.lays169_ren : Go.Shelf.Ren := ⟨fun | 169 => 43 | n => n, fun | 70 => 53 | 9 => 9 | 0 => 0 | 72 => 55 | 37 => 35 | 127 => 79 | 3 => 3 | 5 => 5 | n => n, fun | n => n⟩
theorem Tryz.lays169 : Go.Proofs.Lays.n169 Tryz.prog Tryz.lays169_ren := {
  mixed := by kernel_rfl
  f169 := Tryz.func43.trans (congrArg some (by kernel_rfl))
  t0 := Tryz.underlying0
  a0 := Tryz.isAgg0
  z0 := Tryz.sizeOf0
  v0 := Tryz.zeroValue0
  t3 := Tryz.underlying3
  a3 := Tryz.isAgg3
  z3 := Tryz.sizeOf3
  v3 := Tryz.zeroValue3
  t9 := Tryz.underlying9
  a9 := Tryz.isAgg9
  z9 := Tryz.sizeOf9
  v9 := Tryz.zeroValue9
  t37 := Tryz.underlying35
  a37 := Tryz.isAgg35
  z37 := Tryz.sizeOf35
  v37 := Tryz.zeroValue35
  t70 := Tryz.underlying53
  a70 := Tryz.isAgg53
  z70 := Tryz.sizeOf53
  v70 := Tryz.zeroValue53
  t72 := Tryz.underlying55
  a72 := Tryz.isAgg55
  z72 := Tryz.sizeOf55
  v72 := Tryz.zeroValue55
  t127 := Tryz.underlying79
  a127 := Tryz.isAgg79
  z127 := Tryz.sizeOf79
  v127 := Tryz.zeroValue79 }
theorem Tryz.Builder_Extra_169 : Builder.Extra Tryz.prog Tryz.lays169_ren := {
  sizeBuilder := by kernel_rfl
  liesBuilder := by kernel_rfl
  t5 := Tryz.underlying5
  a5 := Tryz.isAgg5
  z5 := Tryz.sizeOf5
  v5 := Tryz.zeroValue5
  infoByte := by kernel_rfl
  cellsByte := by kernel_rfl
  sizeByte := by kernel_rfl
  neB5 := by decide }
open Go.RowKit in
/-- (*strings.Builder).String: "String returns the accumulated string.": OF A BUILDER THAT HOLDS AT LEAST ONE BYTE. ✋ THE MODEL FREEZES THOSE BYTES IN THE BUFFER (unsafe.String): a later write INTO them ends the model's run without an answer; a later append BEHIND them goes on. The statement's order of evaluation is drawn: one draw. (LAID: no walk: one application.) -/
theorem Tryz.Builder_String (B b : Nat) (l : List UInt8) (w : World) (h : Lib.IsBuilder 55 5 B b (Lib.byteCells l) w) (h0 : l ≠ []) :
    Calls Tryz.prog 43 #[.pointer (some ⟨b, 0, none⟩)] w fun e w' => e = .returned (.string ⟨l.toArray⟩) ∧ Below B w w' := Any.Builder_String Tryz.lays169 Tryz.Builder_Extra_169 B b l w h h0
open Go.RowKit in
/-- (*strings.Builder).String OF A BUILDER THAT HOLDS NO BYTE: the empty string. (Its buffer is nil, or a row of which it has taken nothing yet; where that row has NO capacity the model lays one new block for unsafe.SliceData's 'some address'.) One draw. (LAID: no walk: one application.) -/
theorem Tryz.Builder_String_empty (B b : Nat) (w : World) (h : Lib.IsBuilder 55 5 B b [] w) (hBw : B ≤ w.heap.size) :
    Calls Tryz.prog 43 #[.pointer (some ⟨b, 0, none⟩)] w fun e w' => e = .returned (.string ⟨#[]⟩) ∧ Below B w w' := Any.Builder_String_empty Tryz.lays169 Tryz.Builder_Extra_169 B b w h hBw
open Go.RowKit in
/-- (*strings.Builder).String: "String returns the accumulated string.": WHATEVER THE BUILDER HOLDS. (LAID: no walk: one application.) -/
theorem Tryz.Builder_String_any (B b : Nat) (l : List UInt8) (w : World) (h : Lib.IsBuilder 55 5 B b (Lib.byteCells l) w) (hBw : B ≤ w.heap.size) :
    Calls Tryz.prog 43 #[.pointer (some ⟨b, 0, none⟩)] w fun e w' => e = .returned (.string ⟨l.toArray⟩) ∧ Below B w w' := Any.Builder_String_any Tryz.lays169 Tryz.Builder_Extra_169 B b l w h hBw
def Tryz.lays241_ren : Go.Shelf.Ren := ⟨fun | 241 => 58 | 277 => 69 | n => n, fun | 70 => 53 | 3 => 3 | 0 => 0 | 72 => 55 | 37 => 35 | 5 => 5 | n => n, fun | n => n⟩
theorem Tryz.lays241 : Go.Proofs.Lays.n241 Tryz.prog Tryz.lays241_ren := {
  mixed := by kernel_rfl
  f241 := Tryz.func58.trans (congrArg some (by kernel_rfl))
  f277 := Tryz.func69.trans (congrArg some (by kernel_rfl))
  t0 := Tryz.underlying0
  a0 := Tryz.isAgg0
  z0 := Tryz.sizeOf0
  v0 := Tryz.zeroValue0
  t3 := Tryz.underlying3
  a3 := Tryz.isAgg3
  z3 := Tryz.sizeOf3
  v3 := Tryz.zeroValue3
  t37 := Tryz.underlying35
  a37 := Tryz.isAgg35
  z37 := Tryz.sizeOf35
  v37 := Tryz.zeroValue35
  t70 := Tryz.underlying53
  a70 := Tryz.isAgg53
  z70 := Tryz.sizeOf53
  v70 := Tryz.zeroValue53
  t72 := Tryz.underlying55
  a72 := Tryz.isAgg55
  z72 := Tryz.sizeOf55
  v72 := Tryz.zeroValue55 }
theorem Tryz.Builder_Extra_241 : Builder.Extra Tryz.prog Tryz.lays241_ren := {
  sizeBuilder := by kernel_rfl
  liesBuilder := by kernel_rfl
  t5 := Tryz.underlying5
  a5 := Tryz.isAgg5
  z5 := Tryz.sizeOf5
  v5 := Tryz.zeroValue5
  infoByte := by kernel_rfl
  cellsByte := by kernel_rfl
  sizeByte := by kernel_rfl
  neB5 := by decide }
open Go.RowKit in
/-- (*strings.Builder).grow (no doc but "grow copies the buffer to a new, larger buffer so that there are at least n bytes of capacity beyond len(b.buf)."): AT A BUILDER WITHOUT A BUFFER: a new row of whatever bytes for its buffer, none of them its own yet. Three draws. (LAID: no walk: one application.) -/
theorem Tryz.Builder_grow_fresh (B b n : Nat) (w : World) (hB : B ≤ b) (hbk : w.heap[b]? = some (.cells #[.pointer (some ⟨b, 0, none⟩), .slice none 0 0] 55 (0, 0))) (hBw : B ≤ w.heap.size) (hn : n ≤ 281474976710656) :
    Calls Tryz.prog 58 #[.pointer (some ⟨b, 0, none⟩), .int .i64 n] w fun e w' => e = .returned (.tuple #[]) ∧ (Lib.BuilderAt 55 5 B b (.pointer (some ⟨b, 0, none⟩)) [] w' ∧ Below B w w') := Any.Builder_grow_fresh Tryz.lays241 Tryz.Builder_Extra_241 B b n w hB hbk hBw hn
def Tryz.lays165_ren : Go.Shelf.Ren := ⟨fun | 165 => 46 | 240 => 54 | 241 => 58 | 276 => 68 | 277 => 69 | n => n, fun | 70 => 53 | 3 => 3 | 0 => 0 | 4 => 4 | 9 => 9 | 20 => 20 | 72 => 55 | 37 => 35 | 164 => 113 | 5 => 5 | n => n, fun | n => n⟩
theorem Tryz.lays165 : Go.Proofs.Lays.n165 Tryz.prog Tryz.lays165_ren := {
  mixed := by kernel_rfl
  f165 := Tryz.func46.trans (congrArg some (by kernel_rfl))
  f240 := Tryz.func54.trans (congrArg some (by kernel_rfl))
  f241 := Tryz.func58.trans (congrArg some (by kernel_rfl))
  f276 := Tryz.func68.trans (congrArg some (by kernel_rfl))
  f277 := Tryz.func69.trans (congrArg some (by kernel_rfl))
  t0 := Tryz.underlying0
  a0 := Tryz.isAgg0
  z0 := Tryz.sizeOf0
  v0 := Tryz.zeroValue0
  t3 := Tryz.underlying3
  a3 := Tryz.isAgg3
  z3 := Tryz.sizeOf3
  v3 := Tryz.zeroValue3
  t4 := Tryz.underlying4
  a4 := Tryz.isAgg4
  z4 := Tryz.sizeOf4
  v4 := Tryz.zeroValue4
  t9 := Tryz.underlying9
  a9 := Tryz.isAgg9
  z9 := Tryz.sizeOf9
  v9 := Tryz.zeroValue9
  t20 := Tryz.underlying20
  a20 := Tryz.isAgg20
  z20 := Tryz.sizeOf20
  v20 := Tryz.zeroValue20
  t37 := Tryz.underlying35
  a37 := Tryz.isAgg35
  z37 := Tryz.sizeOf35
  v37 := Tryz.zeroValue35
  t70 := Tryz.underlying53
  a70 := Tryz.isAgg53
  z70 := Tryz.sizeOf53
  v70 := Tryz.zeroValue53
  t72 := Tryz.underlying55
  a72 := Tryz.isAgg55
  z72 := Tryz.sizeOf55
  v72 := Tryz.zeroValue55
  t164 := Tryz.underlying113
  a164 := Tryz.isAgg113
  z164 := Tryz.sizeOf113
  v164 := Tryz.zeroValue113 }
theorem Tryz.Builder_Extra_165 : Builder.Extra Tryz.prog Tryz.lays165_ren := {
  sizeBuilder := by kernel_rfl
  liesBuilder := by kernel_rfl
  t5 := Tryz.underlying5
  a5 := Tryz.isAgg5
  z5 := Tryz.sizeOf5
  v5 := Tryz.zeroValue5
  infoByte := by kernel_rfl
  cellsByte := by kernel_rfl
  sizeByte := by kernel_rfl
  neB5 := by decide }
open Go.RowKit in
/-- (*strings.Builder).Grow AT A BUILDER THAT HAS NOT BEEN WRITTEN ('var b strings.Builder; b.Grow(n)'): "Grow grows b's capacity, if necessary, to guarantee space for another n bytes.": it holds no byte behind it as before it. (LAID: no walk: one application.) -/
theorem Tryz.Builder_Grow_fresh (B b n : Nat) (w : World) (hB : B ≤ b) (hbk : w.heap[b]? = some (.cells #[.pointer none, .slice none 0 0] 55 (0, 0))) (hBw : B ≤ w.heap.size) (hn : n ≤ 281474976710656) :
    Calls Tryz.prog 46 #[.pointer (some ⟨b, 0, none⟩), .int .i64 n] w fun e w' => e = .returned (.tuple #[]) ∧ (Lib.BuilderAt 55 5 B b (.pointer (some ⟨b, 0, none⟩)) [] w' ∧ Below B w w') := Any.Builder_Grow_fresh Tryz.lays165 Tryz.Builder_Extra_165 B b n w hB hbk hBw hn
def Tryz.lays156_ren : Go.Shelf.Ren := ⟨fun | 156 => 29 | 165 => 46 | 166 => 47 | 169 => 43 | 240 => 54 | 241 => 58 | 276 => 68 | 277 => 69 | n => n, fun | 31 => 36 | 9 => 9 | 3 => 3 | 4 => 4 | 0 => 0 | 20 => 20 | 72 => 55 | 76 => 64 | 70 => 53 | 37 => 35 | 75 => 57 | 127 => 79 | 164 => 113 | 5 => 5 | 80 => 59 | n => n, fun | n => n⟩
theorem Tryz.lays156 : Go.Proofs.Lays.n156 Tryz.prog Tryz.lays156_ren := {
  mixed := by kernel_rfl
  f156 := Tryz.func29.trans (congrArg some (by kernel_rfl))
  f165 := Tryz.func46.trans (congrArg some (by kernel_rfl))
  f166 := Tryz.func47.trans (congrArg some (by kernel_rfl))
  f169 := Tryz.func43.trans (congrArg some (by kernel_rfl))
  f240 := Tryz.func54.trans (congrArg some (by kernel_rfl))
  f241 := Tryz.func58.trans (congrArg some (by kernel_rfl))
  f276 := Tryz.func68.trans (congrArg some (by kernel_rfl))
  f277 := Tryz.func69.trans (congrArg some (by kernel_rfl))
  t0 := Tryz.underlying0
  a0 := Tryz.isAgg0
  z0 := Tryz.sizeOf0
  v0 := Tryz.zeroValue0
  t3 := Tryz.underlying3
  a3 := Tryz.isAgg3
  z3 := Tryz.sizeOf3
  v3 := Tryz.zeroValue3
  t4 := Tryz.underlying4
  a4 := Tryz.isAgg4
  z4 := Tryz.sizeOf4
  v4 := Tryz.zeroValue4
  t9 := Tryz.underlying9
  a9 := Tryz.isAgg9
  z9 := Tryz.sizeOf9
  v9 := Tryz.zeroValue9
  t20 := Tryz.underlying20
  a20 := Tryz.isAgg20
  z20 := Tryz.sizeOf20
  v20 := Tryz.zeroValue20
  t31 := Tryz.underlying36
  a31 := Tryz.isAgg36
  z31 := Tryz.sizeOf36
  v31 := Tryz.zeroValue36
  t37 := Tryz.underlying35
  a37 := Tryz.isAgg35
  z37 := Tryz.sizeOf35
  v37 := Tryz.zeroValue35
  t70 := Tryz.underlying53
  a70 := Tryz.isAgg53
  z70 := Tryz.sizeOf53
  v70 := Tryz.zeroValue53
  t72 := Tryz.underlying55
  a72 := Tryz.isAgg55
  z72 := Tryz.sizeOf55
  v72 := Tryz.zeroValue55
  t75 := Tryz.underlying57
  a75 := Tryz.isAgg57
  z75 := Tryz.sizeOf57
  v75 := Tryz.zeroValue57
  t76 := Tryz.underlying64
  a76 := Tryz.isAgg64
  z76 := Tryz.sizeOf64
  v76 := Tryz.zeroValue64
  t127 := Tryz.underlying79
  a127 := Tryz.isAgg79
  z127 := Tryz.sizeOf79
  v127 := Tryz.zeroValue79
  t164 := Tryz.underlying113
  a164 := Tryz.isAgg113
  z164 := Tryz.sizeOf113
  v164 := Tryz.zeroValue113 }
theorem Tryz.Builder_Extra_156 : Builder.Extra Tryz.prog Tryz.lays156_ren := {
  sizeBuilder := by kernel_rfl
  liesBuilder := by kernel_rfl
  t5 := Tryz.underlying5
  a5 := Tryz.isAgg5
  z5 := Tryz.sizeOf5
  v5 := Tryz.zeroValue5
  infoByte := by kernel_rfl
  cellsByte := by kernel_rfl
  sizeByte := by kernel_rfl
  neB5 := by decide }
open Go.RowKit in
/-- No element: the empty string; the world is as it was. (Whatever the slice's address and capacity: a nil slice too.) (LAID: no walk: one application.) -/
theorem Tryz.strings_Join_none (a : Option Addr) (c : Nat) (sep : ByteArray) (w : World) :
    Calls Tryz.prog 29 #[.slice a 0 c, .string sep] w fun e w' => e = .returned (.string ⟨#[]⟩) ∧ w' = w := Any.strings_Join_none Tryz.lays156 Tryz.Builder_Extra_156 a c sep w
open Go.RowKit in
/-- strings.Join: "Join concatenates the elements of its first argument to create a single string. The separator string sep is placed between elements in the resulting string.": HOWEVER MANY ELEMENTS. Below the heap's end the world is as it was. (LAID: no walk: one application.) -/
theorem Tryz.strings_Join (bk o c : Nat) (xs : List ByteArray) (sep : ByteArray) (w : World) (hcells : ∀ (j : Nat) x, xs[j]? = some x → w.cell? ⟨bk, o + j, none⟩ = some (.string x)) (hbk : bk < w.heap.size) (hN : xs.length ≤ 140737488355328) (hcap : xs.length ≤ c) (hlen : (Lib.join (xs.map (·.data.toList)) sep.data.toList).length ≤ 140737488355328) :
    Calls Tryz.prog 29 #[.slice (some ⟨bk, o, none⟩) xs.length c, .string sep] w fun e w' => e = .returned (.string ⟨(Lib.join (xs.map (·.data.toList)) sep.data.toList).toArray⟩) ∧ Below w.heap.size w w' := Any.strings_Join Tryz.lays156 Tryz.Builder_Extra_156 bk o c xs sep w hcells hbk hN hcap hlen
def Tryz.lays120_ren : Go.Shelf.Ren := ⟨fun | 120 => 168 | n => n, fun | 5 => 5 | 4 => 4 | n => n, fun | n => n⟩
theorem Tryz.lays120 : Go.Proofs.Lays.n120 Tryz.prog Tryz.lays120_ren := {
  mixed := by kernel_rfl
  f120 := Tryz.func168.trans (congrArg some (by kernel_rfl))
  t4 := Tryz.underlying4
  a4 := Tryz.isAgg4
  z4 := Tryz.sizeOf4
  v4 := Tryz.zeroValue4
  t5 := Tryz.underlying5
  a5 := Tryz.isAgg5
  z5 := Tryz.sizeOf5
  v5 := Tryz.zeroValue5 }
/-- utf8.RuneStart: "RuneStart reports whether the byte could be the first byte of an encoded, possibly invalid rune. Second and subsequent bytes always have the top two bits set to 10.": IT RETURNS 'Lib.runeStart b'; the world is as it was. ('h0', 'h1': b is a byte: a caller has it of every byte that it was handed.) (LAID: no walk: one application.) -/
theorem Tryz.utf8_RuneStart (b : Int) (w : World) (h0 : 0 ≤ b) (h1 : b < 256) :
    Calls Tryz.prog 168 #[.int .u8 b] w fun e w' => e = .returned (.bool (Lib.runeStart b)) ∧ w' = w := Any.utf8_RuneStart Tryz.lays120 b w h0 h1
def Tryz.lays137_ren : Go.Shelf.Ren := ⟨fun | 137 => 36 | 217 => 49 | 266 => 59 | n => n, fun | 9 => 9 | 5 => 5 | 3 => 3 | n => n, fun | n => n⟩
theorem Tryz.lays137 : Go.Proofs.Lays.n137 Tryz.prog Tryz.lays137_ren := {
  mixed := by kernel_rfl
  f137 := Tryz.func36.trans (congrArg some (by kernel_rfl))
  f217 := Tryz.func49.trans (congrArg some (by kernel_rfl))
  f266 := Tryz.func59.trans (congrArg some (by kernel_rfl))
  t3 := Tryz.underlying3
  a3 := Tryz.isAgg3
  z3 := Tryz.sizeOf3
  v3 := Tryz.zeroValue3
  t5 := Tryz.underlying5
  a5 := Tryz.isAgg5
  z5 := Tryz.sizeOf5
  v5 := Tryz.zeroValue5
  t9 := Tryz.underlying9
  a9 := Tryz.isAgg9
  z9 := Tryz.sizeOf9
  v9 := Tryz.zeroValue9 }
open Go.RowKit in
/-- strings.IndexByte: "IndexByte returns the index of the first instance of c in s, or -1 if c is not present in s.": IT RETURNS 'Lib.indexByte s c'; the world is as it was. (LAID: no walk: one application.) -/
theorem Tryz.strings_IndexByte (s : ByteArray) (c : Int) (w : World) :
    Calls Tryz.prog 36 #[.string s, .int .u8 c] w fun e w' => e = .returned (.int .i64 (Lib.indexByte s.data.toList c.toNat.toUInt8)) ∧ w' = w := Any.strings_IndexByte Tryz.lays137 s c w
open Go.RowKit in
/-- (*strings.Builder).Len: "Len returns the number of accumulated bytes; b.Len() == len(b.String()).": the world is as it was. (THE FORM '_f': 'Lib.IsBuilderF'.) (LAID: no walk: one application.) -/
theorem Tryz.Builder_Len_f (B b : Nat) (bs : List Value) (w : World) (h : Lib.IsBuilderF 55 5 B b bs w) :
    Calls Tryz.prog 48 #[.pointer (some ⟨b, 0, none⟩)] w fun e w' => e = .returned (.int .i64 bs.length) ∧ w' = w := Any.Builder_Len_f Tryz.lays170 B b bs w h
open Go.RowKit in
/-- (*strings.Builder).String: "String returns the accumulated string.": OF A BUILDER THAT HOLDS AT LEAST ONE BYTE. ✋ THE MODEL FREEZES THOSE BYTES IN THE BUFFER (unsafe.String): a later write INTO them ends the model's run without an answer; a later append BEHIND them goes on. The statement's order of evaluation is drawn: one draw. THE FORM '_f': IT SAYS BESIDES THAT THE BUILDER IS A BUILDER STILL ('Lib.IsBuilderF', the same bytes): SO IT CAN BE WRITTEN ON: 'b.WriteString(b.String()[:k])'. (LAID: no walk: one application.) -/
theorem Tryz.Builder_String_f (B b : Nat) (l : List UInt8) (w : World) (h : Lib.IsBuilderF 55 5 B b (Lib.byteCells l) w) (h0 : l ≠ []) :
    Calls Tryz.prog 43 #[.pointer (some ⟨b, 0, none⟩)] w fun e w' => e = .returned (.string ⟨l.toArray⟩) ∧ (Lib.IsBuilderF 55 5 B b (Lib.byteCells l) w' ∧ Below B w w') := Any.Builder_String_f Tryz.lays169 Tryz.Builder_Extra_169 B b l w h h0
open Go.RowKit in
/-- (*strings.Builder).String OF A BUILDER THAT HOLDS NO BYTE: the empty string; THE FORM '_f': a builder still. (LAID: no walk: one application.) -/
theorem Tryz.Builder_String_empty_f (B b : Nat) (w : World) (h : Lib.IsBuilderF 55 5 B b [] w) (hBw : B ≤ w.heap.size) :
    Calls Tryz.prog 43 #[.pointer (some ⟨b, 0, none⟩)] w fun e w' => e = .returned (.string ⟨#[]⟩) ∧ (Lib.IsBuilderF 55 5 B b [] w' ∧ Below B w w') := Any.Builder_String_empty_f Tryz.lays169 Tryz.Builder_Extra_169 B b w h hBw
open Go.RowKit in
/-- (*strings.Builder).String: "String returns the accumulated string.": WHATEVER THE BUILDER HOLDS; THE FORM '_f': OF A BUILDER THAT MAY HAVE BEEN READ BEFORE; AND IT IS A BUILDER STILL, holding the same bytes: it can be written on. (LAID: no walk: one application.) -/
theorem Tryz.Builder_String_any_f (B b : Nat) (l : List UInt8) (w : World) (h : Lib.IsBuilderF 55 5 B b (Lib.byteCells l) w) (hBw : B ≤ w.heap.size) :
    Calls Tryz.prog 43 #[.pointer (some ⟨b, 0, none⟩)] w fun e w' => e = .returned (.string ⟨l.toArray⟩) ∧ (Lib.IsBuilderF 55 5 B b (Lib.byteCells l) w' ∧ Below B w w') := Any.Builder_String_any_f Tryz.lays169 Tryz.Builder_Extra_169 B b l w h hBw
open Go.RowKit in
/-- (*strings.Builder).String: "String returns the accumulated string.": OF A BUILDER THAT HOLDS AT LEAST ONE BYTE. ✋ THE MODEL FREEZES THOSE BYTES IN THE BUFFER (unsafe.String): a later write INTO them ends the model's run without an answer; a later append BEHIND them goes on. The statement's order of evaluation is drawn: one draw. THE FORM '_k': OVER 'Lib.IsBuilderF' (a builder that 'String()' may have read), AND WITH THE FRAME THAT REACHES ABOVE THE BUILDER: 'Lib.OthersKept': every block that is not b and is no row of uint8's stands as it stood: the iterator of a range among them. (LAID: no walk: one application.) -/
theorem Tryz.Builder_String_k (B b : Nat) (l : List UInt8) (w : World) (h : Lib.IsBuilderF 55 5 B b (Lib.byteCells l) w) (h0 : l ≠ []) :
    Calls Tryz.prog 43 #[.pointer (some ⟨b, 0, none⟩)] w fun e w' => e = .returned (.string ⟨l.toArray⟩) ∧ (Lib.IsBuilderF 55 5 B b (Lib.byteCells l) w' ∧ Below B w w' ∧ Lib.OthersKept 5 (some b) w w') := Any.Builder_String_k Tryz.lays169 Tryz.Builder_Extra_169 B b l w h h0
open Go.RowKit in
/-- (*strings.Builder).String OF A BUILDER THAT HOLDS NO BYTE: the empty string; THE FORM '_k': OVER 'Lib.IsBuilderF' (a builder that 'String()' may have read), AND WITH THE FRAME THAT REACHES ABOVE THE BUILDER: 'Lib.OthersKept': every block that is not b and is no row of uint8's stands as it stood: the iterator of a range among them. (LAID: no walk: one application.) -/
theorem Tryz.Builder_String_empty_k (B b : Nat) (w : World) (h : Lib.IsBuilderF 55 5 B b [] w) (hBw : B ≤ w.heap.size) :
    Calls Tryz.prog 43 #[.pointer (some ⟨b, 0, none⟩)] w fun e w' => e = .returned (.string ⟨#[]⟩) ∧ (Lib.IsBuilderF 55 5 B b [] w' ∧ Below B w w' ∧ Lib.OthersKept 5 (some b) w w') := Any.Builder_String_empty_k Tryz.lays169 Tryz.Builder_Extra_169 B b w h hBw
open Go.RowKit in
/-- (*strings.Builder).String: "String returns the accumulated string.": WHATEVER THE BUILDER HOLDS; THE FORM '_k': OVER 'Lib.IsBuilderF' (a builder that 'String()' may have read), AND WITH THE FRAME THAT REACHES ABOVE THE BUILDER: 'Lib.OthersKept': every block that is not b and is no row of uint8's stands as it stood: the iterator of a range among them. (LAID: no walk: one application.) -/
theorem Tryz.Builder_String_any_k (B b : Nat) (l : List UInt8) (w : World) (h : Lib.IsBuilderF 55 5 B b (Lib.byteCells l) w) (hBw : B ≤ w.heap.size) :
    Calls Tryz.prog 43 #[.pointer (some ⟨b, 0, none⟩)] w fun e w' => e = .returned (.string ⟨l.toArray⟩) ∧ (Lib.IsBuilderF 55 5 B b (Lib.byteCells l) w' ∧ Below B w w' ∧ Lib.OthersKept 5 (some b) w w') := Any.Builder_String_any_k Tryz.lays169 Tryz.Builder_Extra_169 B b l w h hBw
def Tryz.laysM181_ren : Go.Shelf.Ren := ⟨fun | 181 => 256 | n => n, fun | 130 => 74 | 3 => 3 | 0 => 0 | 93 => 72 | 37 => 35 | 91 => 70 | 5 => 5 | n => n, fun | n => n⟩
theorem Tryz.laysM181 : Go.Proofs.LaysM.n181 Tryz.prog Tryz.laysM181_ren := {
  mixed := by kernel_rfl
  f181 := Tryz.func256.trans (congrArg some (by kernel_rfl))
  t0 := Tryz.underlying0
  a0 := Tryz.isAgg0
  z0 := Tryz.sizeOf0
  v0 := Tryz.zeroValue0
  t3 := Tryz.underlying3
  a3 := Tryz.isAgg3
  z3 := Tryz.sizeOf3
  v3 := Tryz.zeroValue3
  t37 := Tryz.underlying35
  a37 := Tryz.isAgg35
  z37 := Tryz.sizeOf35
  v37 := Tryz.zeroValue35
  t93 := Tryz.underlying72
  a93 := Tryz.isAgg72
  z93 := Tryz.sizeOf72
  v93 := Tryz.zeroValue72
  t130 := Tryz.underlying74
  a130 := Tryz.isAgg74
  z130 := Tryz.sizeOf74
  v130 := Tryz.zeroValue74
  t5 := Tryz.underlying5
  a5 := Tryz.isAgg5
  z5 := Tryz.sizeOf5
  v5 := Tryz.zeroValue5
  t91 := Tryz.underlying70
  a91 := Tryz.isAgg70
  z91 := Tryz.sizeOf70
  v91 := Tryz.zeroValue70
  i0 := by kernel_rfl
  i3 := by kernel_rfl
  i5 := by kernel_rfl
  i37 := by kernel_rfl
  i91 := by kernel_rfl
  i93 := by kernel_rfl
  i130 := by kernel_rfl }
open Go.RowKit in
/-- (*bytes.Buffer).Len: "Len returns the number of bytes of the unread portion of the buffer; b.Len() == len(b.Bytes()).": the world is as it was but for the count of draws (the statement has two reads: its order is drawn). (LAID: no walk: one application.) -/
theorem Tryz.Buffer_Len (B b : Nat) (bs : List Value) (w : World) (h : Lib.IsBuffer 72 5 B b bs w) :
    Calls Tryz.prog 256 #[.pointer (some ⟨b, 0, none⟩)] w fun e w' => e = .returned (.int .i64 bs.length) ∧ ∃ n, w' = w.drewN n := Any.Buffer_Len Tryz.laysM181 B b bs w h
def Tryz.laysM251_ren : Go.Shelf.Ren := ⟨fun | 251 => 254 | n => n, fun | 130 => 74 | 3 => 3 | 4 => 4 | 0 => 0 | 93 => 72 | 37 => 35 | 91 => 70 | 5 => 5 | n => n, fun | n => n⟩
theorem Tryz.laysM251 : Go.Proofs.LaysM.n251 Tryz.prog Tryz.laysM251_ren := {
  mixed := by kernel_rfl
  f251 := Tryz.func254.trans (congrArg some (by kernel_rfl))
  t0 := Tryz.underlying0
  a0 := Tryz.isAgg0
  z0 := Tryz.sizeOf0
  v0 := Tryz.zeroValue0
  t3 := Tryz.underlying3
  a3 := Tryz.isAgg3
  z3 := Tryz.sizeOf3
  v3 := Tryz.zeroValue3
  t4 := Tryz.underlying4
  a4 := Tryz.isAgg4
  z4 := Tryz.sizeOf4
  v4 := Tryz.zeroValue4
  t37 := Tryz.underlying35
  a37 := Tryz.isAgg35
  z37 := Tryz.sizeOf35
  v37 := Tryz.zeroValue35
  t93 := Tryz.underlying72
  a93 := Tryz.isAgg72
  z93 := Tryz.sizeOf72
  v93 := Tryz.zeroValue72
  t130 := Tryz.underlying74
  a130 := Tryz.isAgg74
  z130 := Tryz.sizeOf74
  v130 := Tryz.zeroValue74
  t5 := Tryz.underlying5
  a5 := Tryz.isAgg5
  z5 := Tryz.sizeOf5
  v5 := Tryz.zeroValue5
  t91 := Tryz.underlying70
  a91 := Tryz.isAgg70
  z91 := Tryz.sizeOf70
  v91 := Tryz.zeroValue70
  i0 := by kernel_rfl
  i3 := by kernel_rfl
  i4 := by kernel_rfl
  i5 := by kernel_rfl
  i37 := by kernel_rfl
  i91 := by kernel_rfl
  i93 := by kernel_rfl
  i130 := by kernel_rfl }
open Go.RowKit in
/-- (*bytes.Buffer).tryGrowByReslice: "tryGrowByReslice is an inlineable version of grow for the fast-case where the internal buffer only needs to be resliced. It returns the index where bytes should be written and whether it succeeded.": THERE IS ROOM: 'buf' is resliced to l + n. (LAID: no walk: one application.) -/
theorem Tryz.Buffer_tryGrow_room (b : Nat) (ao : Option Addr) (l cap n : Nat) (w : World) (c0 : w.cell? ⟨b, 0, none⟩ = some (.slice ao l cap)) (f0 : w.frozen? ⟨b, 0, none⟩ = false) (hlc : l ≤ cap) (hcap : cap ≤ maxLen) (hn : n ≤ cap - l) :
    Calls Tryz.prog 254 #[.pointer (some ⟨b, 0, none⟩), .int .i64 n] w fun e w' => e = .returned (.tuple #[.int .i64 l, .bool true]) ∧ w' = w.setCell ⟨b, 0, none⟩ (.slice ao (l + n) cap) := Any.Buffer_tryGrow_room Tryz.laysM251 b ao l cap n w c0 f0 hlc hcap hn
open Go.RowKit in
/-- .. THERE IS NONE: nothing turns. (LAID: no walk: one application.) -/
theorem Tryz.Buffer_tryGrow_none (b : Nat) (ao : Option Addr) (l cap n : Nat) (w : World) (c0 : w.cell? ⟨b, 0, none⟩ = some (.slice ao l cap)) (hlc : l ≤ cap) (hcap : cap ≤ maxLen) (hn : cap - l < n) :
    Calls Tryz.prog 254 #[.pointer (some ⟨b, 0, none⟩), .int .i64 n] w fun e w' => e = .returned (.tuple #[.int .i64 0, .bool false]) ∧ w' = w := Any.Buffer_tryGrow_none Tryz.laysM251 b ao l cap n w c0 hlc hcap hn
def Tryz.laysM324_ren : Go.Shelf.Ren := ⟨fun | 324 => 258 | n => n, fun | 20 => 20 | 4 => 4 | 75 => 57 | 0 => 0 | 80 => 59 | 9 => 9 | n => n, fun | 14 => 9 | n => n⟩
theorem Tryz.laysM324 : Go.Proofs.LaysM.n324 Tryz.prog Tryz.laysM324_ren := {
  mixed := by kernel_rfl
  f324 := Tryz.func258.trans (congrArg some (by kernel_rfl))
  t0 := Tryz.underlying0
  a0 := Tryz.isAgg0
  z0 := Tryz.sizeOf0
  v0 := Tryz.zeroValue0
  t4 := Tryz.underlying4
  a4 := Tryz.isAgg4
  z4 := Tryz.sizeOf4
  v4 := Tryz.zeroValue4
  t20 := Tryz.underlying20
  a20 := Tryz.isAgg20
  z20 := Tryz.sizeOf20
  v20 := Tryz.zeroValue20
  t75 := Tryz.underlying57
  a75 := Tryz.isAgg57
  z75 := Tryz.sizeOf57
  v75 := Tryz.zeroValue57
  g14 := by kernel_rfl
  t9 := Tryz.underlying9
  a9 := Tryz.isAgg9
  z9 := Tryz.sizeOf9
  v9 := Tryz.zeroValue9
  t80 := Tryz.underlying59
  a80 := Tryz.isAgg59
  z80 := Tryz.sizeOf59
  v80 := Tryz.zeroValue59
  i0 := by kernel_rfl
  i4 := by kernel_rfl
  i9 := by kernel_rfl
  i20 := by kernel_rfl
  i75 := by kernel_rfl
  i80 := by kernel_rfl
  m14 := by kernel_rfl }
theorem Tryz.growSlice_catch_idle (w : World) :
    CallsD Tryz.prog 258 #[] .returning w fun e u' w' => e = .returned (.tuple #[]) ∧ u' = .returning ∧ w' = w := Any.growSlice_catch_idle Tryz.laysM324 w
def Tryz.laysM290_ren : Go.Shelf.Ren := ⟨fun | 290 => 257 | 324 => 258 | n => n, fun | 37 => 35 | 3 => 3 | 0 => 0 | 4 => 4 | 20 => 20 | 75 => 57 | 5 => 5 | 80 => 59 | 9 => 9 | n => n, fun | 14 => 9 | n => n⟩
theorem Tryz.laysM290 : Go.Proofs.LaysM.n290 Tryz.prog Tryz.laysM290_ren := {
  mixed := by kernel_rfl
  f290 := Tryz.func257.trans (congrArg some (by kernel_rfl))
  f324 := Tryz.func258.trans (congrArg some (by kernel_rfl))
  t0 := Tryz.underlying0
  a0 := Tryz.isAgg0
  z0 := Tryz.sizeOf0
  v0 := Tryz.zeroValue0
  t3 := Tryz.underlying3
  a3 := Tryz.isAgg3
  z3 := Tryz.sizeOf3
  v3 := Tryz.zeroValue3
  t4 := Tryz.underlying4
  a4 := Tryz.isAgg4
  z4 := Tryz.sizeOf4
  v4 := Tryz.zeroValue4
  t20 := Tryz.underlying20
  a20 := Tryz.isAgg20
  z20 := Tryz.sizeOf20
  v20 := Tryz.zeroValue20
  t37 := Tryz.underlying35
  a37 := Tryz.isAgg35
  z37 := Tryz.sizeOf35
  v37 := Tryz.zeroValue35
  t75 := Tryz.underlying57
  a75 := Tryz.isAgg57
  z75 := Tryz.sizeOf57
  v75 := Tryz.zeroValue57
  g14 := by kernel_rfl
  t5 := Tryz.underlying5
  a5 := Tryz.isAgg5
  z5 := Tryz.sizeOf5
  v5 := Tryz.zeroValue5
  t9 := Tryz.underlying9
  a9 := Tryz.isAgg9
  z9 := Tryz.sizeOf9
  v9 := Tryz.zeroValue9
  t80 := Tryz.underlying59
  a80 := Tryz.isAgg59
  z80 := Tryz.sizeOf59
  v80 := Tryz.zeroValue59
  i0 := by kernel_rfl
  i3 := by kernel_rfl
  i4 := by kernel_rfl
  i5 := by kernel_rfl
  i9 := by kernel_rfl
  i20 := by kernel_rfl
  i37 := by kernel_rfl
  i75 := by kernel_rfl
  i80 := by kernel_rfl
  m14 := by kernel_rfl }
open Go.RowKit in
/-- bytes.growSlice: "growSlice grows b by n, preserving the original content of b.": OF A SLICE THAT LIES AT THE HEAD OF A ROW: a new row, number 'w.heap.size': it begins with b's l cells; its capacity has room for n more; whatever lay below is as it was. (LAID: no walk: one application.) -/
theorem Tryz.bytes_growSlice_row (g l c n : Nat) (cur : Array Value) (w : World) (hg : w.heap[g]? = some (.cells cur 5 (0, 0))) (hcs : cur.size = c) (hlc : l ≤ c) (hn : 1 ≤ n) (hlim : l + n ≤ 140737488355328) (hc2 : c ≤ 140737488355328) (h1 : ∀ v ∈ cur.toList.take l, v.oneCell' = true) :
    Calls Tryz.prog 257 #[.slice (some ⟨g, 0, none⟩) l c, .int .i64 n] w fun e w' => ∃ cap2 cells, e = .returned (.slice (some ⟨w.heap.size, 0, none⟩) l cap2) ∧ w'.heap[w.heap.size]? = some (.cells cells 5 (0, 0)) ∧
      cells.size = cap2 ∧ cells.toList.take l = cur.toList.take l ∧ l + n ≤ cap2 ∧ cap2 ≤ maxLen ∧ Below w.heap.size w w' := Any.bytes_growSlice_row Tryz.laysM290 g l c n cur w hg hcs hlc hn hlim hc2 h1
open Go.RowKit in
/-- .. OF THE NIL SLICE: a new row with room for n. (LAID: no walk: one application.) -/
theorem Tryz.bytes_growSlice_nil (n : Nat) (w : World) (hn : 1 ≤ n) (hlim : n ≤ 140737488355328) :
    Calls Tryz.prog 257 #[.slice none 0 0, .int .i64 n] w fun e w' => ∃ cap2 cells, e = .returned (.slice (some ⟨w.heap.size, 0, none⟩) 0 cap2) ∧ w'.heap[w.heap.size]? = some (.cells cells 5 (0, 0)) ∧
      cells.size = cap2 ∧ n ≤ cap2 ∧ cap2 ≤ maxLen ∧ Below w.heap.size w w' := Any.bytes_growSlice_nil Tryz.laysM290 n w hn hlim
def Tryz.laysM182_ren : Go.Shelf.Ren := ⟨fun | 182 => 50 | n => n, fun | 130 => 74 | 9 => 9 | 4 => 4 | 0 => 0 | 93 => 72 | 37 => 35 | 3 => 3 | 91 => 70 | 5 => 5 | n => n, fun | n => n⟩
theorem Tryz.laysM182 : Go.Proofs.LaysM.n182 Tryz.prog Tryz.laysM182_ren := {
  mixed := by kernel_rfl
  f182 := Tryz.func50.trans (congrArg some (by kernel_rfl))
  t0 := Tryz.underlying0
  a0 := Tryz.isAgg0
  z0 := Tryz.sizeOf0
  v0 := Tryz.zeroValue0
  t3 := Tryz.underlying3
  a3 := Tryz.isAgg3
  z3 := Tryz.sizeOf3
  v3 := Tryz.zeroValue3
  t4 := Tryz.underlying4
  a4 := Tryz.isAgg4
  z4 := Tryz.sizeOf4
  v4 := Tryz.zeroValue4
  t9 := Tryz.underlying9
  a9 := Tryz.isAgg9
  z9 := Tryz.sizeOf9
  v9 := Tryz.zeroValue9
  t37 := Tryz.underlying35
  a37 := Tryz.isAgg35
  z37 := Tryz.sizeOf35
  v37 := Tryz.zeroValue35
  t93 := Tryz.underlying72
  a93 := Tryz.isAgg72
  z93 := Tryz.sizeOf72
  v93 := Tryz.zeroValue72
  t130 := Tryz.underlying74
  a130 := Tryz.isAgg74
  z130 := Tryz.sizeOf74
  v130 := Tryz.zeroValue74
  t5 := Tryz.underlying5
  a5 := Tryz.isAgg5
  z5 := Tryz.sizeOf5
  v5 := Tryz.zeroValue5
  t91 := Tryz.underlying70
  a91 := Tryz.isAgg70
  z91 := Tryz.sizeOf70
  v91 := Tryz.zeroValue70
  i0 := by kernel_rfl
  i3 := by kernel_rfl
  i4 := by kernel_rfl
  i5 := by kernel_rfl
  i9 := by kernel_rfl
  i37 := by kernel_rfl
  i91 := by kernel_rfl
  i93 := by kernel_rfl
  i130 := by kernel_rfl }
open Go.RowKit in
/-- (*bytes.Buffer).String: "String returns the contents of the unread portion of the buffer as a string.": THE BYTES THAT WERE WRITTEN. The world is as it was but for the count of draws (the statement has two reads: its order is drawn). (LAID: no walk: one application.) -/
theorem Tryz.Buffer_String (B b : Nat) (l : List UInt8) (w : World) (h : Lib.IsBuffer 72 5 B b (Lib.byteCells l) w) :
    Calls Tryz.prog 50 #[.pointer (some ⟨b, 0, none⟩)] w fun e w' => e = .returned (.string ⟨l.toArray⟩) ∧ ∃ n, w' = w.drewN n := Any.Buffer_String Tryz.laysM182 B b l w h
def Tryz.laysM183_ren : Go.Shelf.Ren := ⟨fun | 183 => 279 | n => n, fun | 130 => 74 | 37 => 35 | 0 => 0 | 93 => 72 | 3 => 3 | 5 => 5 | 91 => 70 | n => n, fun | n => n⟩
theorem Tryz.laysM183 : Go.Proofs.LaysM.n183 Tryz.prog Tryz.laysM183_ren := {
  mixed := by kernel_rfl
  f183 := Tryz.func279.trans (congrArg some (by kernel_rfl))
  t0 := Tryz.underlying0
  a0 := Tryz.isAgg0
  z0 := Tryz.sizeOf0
  v0 := Tryz.zeroValue0
  t3 := Tryz.underlying3
  a3 := Tryz.isAgg3
  z3 := Tryz.sizeOf3
  v3 := Tryz.zeroValue3
  t37 := Tryz.underlying35
  a37 := Tryz.isAgg35
  z37 := Tryz.sizeOf35
  v37 := Tryz.zeroValue35
  t93 := Tryz.underlying72
  a93 := Tryz.isAgg72
  z93 := Tryz.sizeOf72
  v93 := Tryz.zeroValue72
  t130 := Tryz.underlying74
  a130 := Tryz.isAgg74
  z130 := Tryz.sizeOf74
  v130 := Tryz.zeroValue74
  t5 := Tryz.underlying5
  a5 := Tryz.isAgg5
  z5 := Tryz.sizeOf5
  v5 := Tryz.zeroValue5
  t91 := Tryz.underlying70
  a91 := Tryz.isAgg70
  z91 := Tryz.sizeOf70
  v91 := Tryz.zeroValue70
  i0 := by kernel_rfl
  i3 := by kernel_rfl
  i5 := by kernel_rfl
  i37 := by kernel_rfl
  i91 := by kernel_rfl
  i93 := by kernel_rfl
  i130 := by kernel_rfl }
open Go.RowKit in
/-- (*bytes.Buffer).Bytes: "Bytes returns a slice of length b.Len() holding the unread portion of the buffer. .. The slice aliases the buffer content at least until the next buffer modification": A SLICE THAT OWNS THE CELLS bs ('World.ownsRow': nil where nothing was ever written). The world is as it was but for the count of draws. (LAID: no walk: one application.) -/
theorem Tryz.Buffer_Bytes (B b : Nat) (bs : List Value) (w : World) (h : Lib.IsBuffer 72 5 B b bs w) :
    Calls Tryz.prog 279 #[.pointer (some ⟨b, 0, none⟩)] w fun e w' => ∃ v, e = .returned v ∧ w'.ownsRow B 5 1 v bs.length bs ∧ ∃ n, w' = w.drewN n := Any.Buffer_Bytes Tryz.laysM183 B b bs w h
def Tryz.lays217_ren : Go.Shelf.Ren := ⟨fun | 217 => 49 | 266 => 59 | n => n, fun | 9 => 9 | 5 => 5 | 3 => 3 | n => n, fun | n => n⟩
theorem Tryz.lays217 : Go.Proofs.Lays.n217 Tryz.prog Tryz.lays217_ren := {
  mixed := by kernel_rfl
  f217 := Tryz.func49.trans (congrArg some (by kernel_rfl))
  f266 := Tryz.func59.trans (congrArg some (by kernel_rfl))
  t3 := Tryz.underlying3
  a3 := Tryz.isAgg3
  z3 := Tryz.sizeOf3
  v3 := Tryz.zeroValue3
  t5 := Tryz.underlying5
  a5 := Tryz.isAgg5
  z5 := Tryz.sizeOf5
  v5 := Tryz.zeroValue5
  t9 := Tryz.underlying9
  a9 := Tryz.isAgg9
  z9 := Tryz.sizeOf9
  v9 := Tryz.zeroValue9 }
open Go.RowKit Go.Lib in
/-- internal/stringslite.IndexByte (what strings.IndexByte calls): IT RETURNS 'Lib.indexByte s c'; the world is as it was. (LAID: no walk: one application.) -/
theorem Tryz.stringslite_IndexByte (s : ByteArray) (c : Int) (w : World) :
    Calls Tryz.prog 49 #[.string s, .int .u8 c] w fun e w' => e = .returned (.int .i64 (Lib.indexByte s.data.toList c.toNat.toUInt8)) ∧ w' = w := Any.stringslite_IndexByte Tryz.lays217 s c w
def Tryz.laysM252_ren : Go.Shelf.Ren := ⟨fun | 252 => 255 | 181 => 256 | 184 => 246 | 251 => 254 | 290 => 257 | 324 => 258 | n => n, fun | 130 => 74 | 3 => 3 | 4 => 4 | 0 => 0 | 93 => 72 | 131 => 265 | 37 => 35 | 75 => 57 | 91 => 70 | 20 => 20 | 5 => 5 | 80 => 59 | 9 => 9 | n => n, fun | 14 => 9 | n => n⟩
theorem Tryz.laysM252 : Go.Proofs.LaysM.n252 Tryz.prog Tryz.laysM252_ren := {
  mixed := by kernel_rfl
  f181 := Tryz.func256.trans (congrArg some (by kernel_rfl))
  f184 := Tryz.func246.trans (congrArg some (by kernel_rfl))
  f251 := Tryz.func254.trans (congrArg some (by kernel_rfl))
  f252 := Tryz.func255.trans (congrArg some (by kernel_rfl))
  f290 := Tryz.func257.trans (congrArg some (by kernel_rfl))
  f324 := Tryz.func258.trans (congrArg some (by kernel_rfl))
  t0 := Tryz.underlying0
  a0 := Tryz.isAgg0
  z0 := Tryz.sizeOf0
  v0 := Tryz.zeroValue0
  t3 := Tryz.underlying3
  a3 := Tryz.isAgg3
  z3 := Tryz.sizeOf3
  v3 := Tryz.zeroValue3
  t4 := Tryz.underlying4
  a4 := Tryz.isAgg4
  z4 := Tryz.sizeOf4
  v4 := Tryz.zeroValue4
  t20 := Tryz.underlying20
  a20 := Tryz.isAgg20
  z20 := Tryz.sizeOf20
  v20 := Tryz.zeroValue20
  t37 := Tryz.underlying35
  a37 := Tryz.isAgg35
  z37 := Tryz.sizeOf35
  v37 := Tryz.zeroValue35
  t75 := Tryz.underlying57
  a75 := Tryz.isAgg57
  z75 := Tryz.sizeOf57
  v75 := Tryz.zeroValue57
  t91 := Tryz.underlying70
  a91 := Tryz.isAgg70
  z91 := Tryz.sizeOf70
  v91 := Tryz.zeroValue70
  t93 := Tryz.underlying72
  a93 := Tryz.isAgg72
  z93 := Tryz.sizeOf72
  v93 := Tryz.zeroValue72
  t130 := Tryz.underlying74
  a130 := Tryz.isAgg74
  z130 := Tryz.sizeOf74
  v130 := Tryz.zeroValue74
  t131 := Tryz.underlying265
  a131 := Tryz.isAgg265
  z131 := Tryz.sizeOf265
  v131 := Tryz.zeroValue265
  g14 := by kernel_rfl
  t5 := Tryz.underlying5
  a5 := Tryz.isAgg5
  z5 := Tryz.sizeOf5
  v5 := Tryz.zeroValue5
  t9 := Tryz.underlying9
  a9 := Tryz.isAgg9
  z9 := Tryz.sizeOf9
  v9 := Tryz.zeroValue9
  t80 := Tryz.underlying59
  a80 := Tryz.isAgg59
  z80 := Tryz.sizeOf59
  v80 := Tryz.zeroValue59
  i0 := by kernel_rfl
  i3 := by kernel_rfl
  i4 := by kernel_rfl
  i5 := by kernel_rfl
  i9 := by kernel_rfl
  i20 := by kernel_rfl
  i37 := by kernel_rfl
  i75 := by kernel_rfl
  i80 := by kernel_rfl
  i91 := by kernel_rfl
  i93 := by kernel_rfl
  i130 := by kernel_rfl
  i131 := by kernel_rfl
  m14 := by kernel_rfl }
open Go.RowKit in
/-- grow, WHERE THE BUFFER HOLDS A ROW, NO BYTE IN IT (behind a Reset), AND THE ROW HAS NO ROOM: growSlice. (THE TEXT OF 'Buffer_grow_row' WITH 0 FOR l, BY PROGRAM: the walk parts on 'm == 0' and writes 0 for l throughout the goal: facts that still say l then do not strike: so l is laid in ahead of the walk.) (LAID: no walk: one application.) -/
theorem Tryz.Buffer_grow_row0_kept (B b g cap n : Nat) (lr : Int) (cur : Array Value) (bs : List Value) (w : World) (hB : B ≤ b) (hBw : B ≤ w.heap.size) (hbk : w.heap[b]? = some (.cells #[.slice (some ⟨g, 0, none⟩) 0 cap, .int .i64 0, .int .i8 lr] 72 (0, 0))) (hl : bs.length = 0) (hBg : B ≤ g) (hg : w.heap[g]? = some (.cells cur 5 (0, 0))) (hlc : 0 ≤ cap) (hcm : cap ≤ maxLen) (hcs : cur.size = cap) (htake : cur.toList.take 0 = bs) (hgb : g ≠ b) (h1 : ∀ v ∈ bs, v.oneCell' = true) (hn : 1 ≤ n) (hroom : cap - 0 < n) (hlim : 0 + n ≤ 140737488355328) :
    Calls Tryz.prog 255 #[.pointer (some ⟨b, 0, none⟩), .int .i64 n] w fun e w' => e = .returned (.int .i64 0) ∧ ∃ xs, xs.length = n ∧ Lib.IsBuffer 72 5 B b (bs ++ xs) w' ∧ Below B w w' ∧ Lib.OthersKept 5 (some b) w w' := Any.Buffer_grow_row0_kept Tryz.laysM252 B b g cap n lr cur bs w hB hBw hbk hl hBg hg hlc hcm hcs htake hgb h1 hn hroom hlim
open Go.RowKit in
/-- grow, WHERE THE BUFFER HOLDS A ROW THAT HAS NO ROOM: growSlice. (LAID: no walk: one application.) -/
theorem Tryz.Buffer_grow_row_kept (B b g l cap n : Nat) (lr : Int) (cur : Array Value) (bs : List Value) (w : World) (hB : B ≤ b) (hBw : B ≤ w.heap.size) (hbk : w.heap[b]? = some (.cells #[.slice (some ⟨g, 0, none⟩) l cap, .int .i64 0, .int .i8 lr] 72 (0, 0))) (hl : bs.length = l) (hBg : B ≤ g) (hg : w.heap[g]? = some (.cells cur 5 (0, 0))) (hlc : l ≤ cap) (hcm : cap ≤ maxLen) (hcs : cur.size = cap) (htake : cur.toList.take l = bs) (hgb : g ≠ b) (h1 : ∀ v ∈ bs, v.oneCell' = true) (hn : 1 ≤ n) (hroom : cap - l < n) (hlim : l + n ≤ 140737488355328) :
    Calls Tryz.prog 255 #[.pointer (some ⟨b, 0, none⟩), .int .i64 n] w fun e w' => e = .returned (.int .i64 l) ∧ ∃ xs, xs.length = n ∧ Lib.IsBuffer 72 5 B b (bs ++ xs) w' ∧ Below B w w' ∧ Lib.OthersKept 5 (some b) w w' := Any.Buffer_grow_row_kept Tryz.laysM252 B b g l cap n lr cur bs w hB hBw hbk hl hBg hg hlc hcm hcs htake hgb h1 hn hroom hlim
open Go.RowKit in
/-- grow, 'buf' nil, n AT MOST 64: 'b.buf = make([]byte, n, smallBufferSize)'. (LAID: no walk: one application.) -/
theorem Tryz.Buffer_grow_nil_small_kept (B b n : Nat) (lr : Int) (w : World) (hB : B ≤ b) (hBw : B ≤ w.heap.size) (hbk : w.heap[b]? = some (.cells #[.slice none 0 0, .int .i64 0, .int .i8 lr] 72 (0, 0))) (hn : 1 ≤ n) (h64 : n ≤ 64) :
    Calls Tryz.prog 255 #[.pointer (some ⟨b, 0, none⟩), .int .i64 n] w fun e w' => e = .returned (.int .i64 0) ∧ ∃ xs, xs.length = n ∧ Lib.IsBuffer 72 5 B b xs w' ∧ Below B w w' ∧ Lib.OthersKept 5 (some b) w w' := Any.Buffer_grow_nil_small_kept Tryz.laysM252 B b n lr w hB hBw hbk hn h64
open Go.RowKit in
/-- grow, 'buf' nil, n ABOVE 64: growSlice of the nil slice. (LAID: no walk: one application.) -/
theorem Tryz.Buffer_grow_nil_big_kept (B b n : Nat) (lr : Int) (w : World) (hB : B ≤ b) (hBw : B ≤ w.heap.size) (hbk : w.heap[b]? = some (.cells #[.slice none 0 0, .int .i64 0, .int .i8 lr] 72 (0, 0))) (h64 : 64 < n) (hlim : n ≤ 140737488355328) :
    Calls Tryz.prog 255 #[.pointer (some ⟨b, 0, none⟩), .int .i64 n] w fun e w' => e = .returned (.int .i64 0) ∧ ∃ xs, xs.length = n ∧ Lib.IsBuffer 72 5 B b xs w' ∧ Below B w w' ∧ Lib.OthersKept 5 (some b) w w' := Any.Buffer_grow_nil_big_kept Tryz.laysM252 B b n lr w hB hBw hbk h64 hlim
open Go.RowKit in
/-- tryGrowByReslice: EITHER there is room: the place to write at is the old length, and the buffer holds the old bytes and n more of whatever lay there; OR there is none: nothing turns, and 'Lib.NoRoom' is what grow asks. (LAID: no walk: one application.) -/
theorem Tryz.Buffer_tryGrow_kept (B b n : Nat) (bs : List Value) (w : World) (h : Lib.IsBuffer 72 5 B b bs w) :
    Calls Tryz.prog 254 #[.pointer (some ⟨b, 0, none⟩), .int .i64 n] w fun e w' =>
      (e = .returned (.tuple #[.int .i64 bs.length, .bool true]) ∧ ∃ xs, xs.length = n ∧ Lib.IsBuffer 72 5 B b (bs ++ xs) w' ∧ Below B w w' ∧ Lib.OthersKept 5 (some b) w w') ∨
      (e = .returned (.tuple #[.int .i64 0, .bool false]) ∧ w' = w ∧ Lib.NoRoom b n w) := Any.Buffer_tryGrow_kept Tryz.laysM251 B b n bs w h
open Go.RowKit in
/-- (*bytes.Buffer).grow: "grow grows the buffer to guarantee space for n more bytes. It returns the index where bytes should be written.": WHERE THERE IS NO ROOM; UNDER Go's OWN LIMIT (the new length takes at most 2^47 bytes): the old length; the buffer holds the old bytes and n more of whatever. (LAID: no walk: one application.) -/
theorem Tryz.Buffer_grow_kept (B b n : Nat) (bs : List Value) (w : World) (h : Lib.IsBuffer 72 5 B b bs w) (hnr : Lib.NoRoom b n w) (hBw : B ≤ w.heap.size) (h1 : ∀ v ∈ bs, v.oneCell' = true) (hlim : bs.length + n ≤ 140737488355328) :
    Calls Tryz.prog 255 #[.pointer (some ⟨b, 0, none⟩), .int .i64 n] w fun e w' => e = .returned (.int .i64 bs.length) ∧ ∃ xs, xs.length = n ∧ Lib.IsBuffer 72 5 B b (bs ++ xs) w' ∧ Below B w w' ∧ Lib.OthersKept 5 (some b) w w' := Any.Buffer_grow_kept Tryz.laysM252 B b n bs w h hnr hBw h1 hlim
def Tryz.laysM179_ren : Go.Shelf.Ren := ⟨fun | 179 => 267 | 251 => 254 | 252 => 255 | 181 => 256 | 184 => 246 | 290 => 257 | 324 => 258 | n => n, fun | 130 => 74 | 5 => 5 | 75 => 57 | 0 => 0 | 93 => 72 | 91 => 70 | 3 => 3 | 131 => 265 | 4 => 4 | 37 => 35 | 20 => 20 | 80 => 59 | 9 => 9 | n => n, fun | 14 => 9 | n => n⟩
theorem Tryz.laysM179 : Go.Proofs.LaysM.n179 Tryz.prog Tryz.laysM179_ren := {
  mixed := by kernel_rfl
  f179 := Tryz.func267.trans (congrArg some (by kernel_rfl))
  f181 := Tryz.func256.trans (congrArg some (by kernel_rfl))
  f184 := Tryz.func246.trans (congrArg some (by kernel_rfl))
  f251 := Tryz.func254.trans (congrArg some (by kernel_rfl))
  f252 := Tryz.func255.trans (congrArg some (by kernel_rfl))
  f290 := Tryz.func257.trans (congrArg some (by kernel_rfl))
  f324 := Tryz.func258.trans (congrArg some (by kernel_rfl))
  t0 := Tryz.underlying0
  a0 := Tryz.isAgg0
  z0 := Tryz.sizeOf0
  v0 := Tryz.zeroValue0
  t3 := Tryz.underlying3
  a3 := Tryz.isAgg3
  z3 := Tryz.sizeOf3
  v3 := Tryz.zeroValue3
  t4 := Tryz.underlying4
  a4 := Tryz.isAgg4
  z4 := Tryz.sizeOf4
  v4 := Tryz.zeroValue4
  t5 := Tryz.underlying5
  a5 := Tryz.isAgg5
  z5 := Tryz.sizeOf5
  v5 := Tryz.zeroValue5
  t20 := Tryz.underlying20
  a20 := Tryz.isAgg20
  z20 := Tryz.sizeOf20
  v20 := Tryz.zeroValue20
  t37 := Tryz.underlying35
  a37 := Tryz.isAgg35
  z37 := Tryz.sizeOf35
  v37 := Tryz.zeroValue35
  t75 := Tryz.underlying57
  a75 := Tryz.isAgg57
  z75 := Tryz.sizeOf57
  v75 := Tryz.zeroValue57
  t91 := Tryz.underlying70
  a91 := Tryz.isAgg70
  z91 := Tryz.sizeOf70
  v91 := Tryz.zeroValue70
  t93 := Tryz.underlying72
  a93 := Tryz.isAgg72
  z93 := Tryz.sizeOf72
  v93 := Tryz.zeroValue72
  t130 := Tryz.underlying74
  a130 := Tryz.isAgg74
  z130 := Tryz.sizeOf74
  v130 := Tryz.zeroValue74
  t131 := Tryz.underlying265
  a131 := Tryz.isAgg265
  z131 := Tryz.sizeOf265
  v131 := Tryz.zeroValue265
  g14 := by kernel_rfl
  t9 := Tryz.underlying9
  a9 := Tryz.isAgg9
  z9 := Tryz.sizeOf9
  v9 := Tryz.zeroValue9
  t80 := Tryz.underlying59
  a80 := Tryz.isAgg59
  z80 := Tryz.sizeOf59
  v80 := Tryz.zeroValue59
  i0 := by kernel_rfl
  i3 := by kernel_rfl
  i4 := by kernel_rfl
  i5 := by kernel_rfl
  i9 := by kernel_rfl
  i20 := by kernel_rfl
  i37 := by kernel_rfl
  i75 := by kernel_rfl
  i80 := by kernel_rfl
  i91 := by kernel_rfl
  i93 := by kernel_rfl
  i130 := by kernel_rfl
  i131 := by kernel_rfl
  m14 := by kernel_rfl }
open Go.RowKit in
/-- (*bytes.Buffer).WriteByte: "WriteByte appends the byte c to the buffer, growing the buffer as needed. The returned error is always nil". (LAID: no walk: one application.) -/
theorem Tryz.Buffer_WriteByte_kept (B b : Nat) (bs : List Value) (c : Int) (w : World) (h : Lib.IsBuffer 72 5 B b bs w) (hBw : B ≤ w.heap.size) (h1 : ∀ v ∈ bs, v.oneCell' = true) (hlim : bs.length + 1 ≤ 140737488355328) :
    Calls Tryz.prog 267 #[.pointer (some ⟨b, 0, none⟩), .int .u8 c] w fun e w' => e = .returned .nilIface ∧ Lib.IsBuffer 72 5 B b (bs ++ [.int .u8 c]) w' ∧ Below B w w' ∧ Lib.OthersKept 5 (some b) w w' := Any.Buffer_WriteByte_kept Tryz.laysM179 B b bs c w h hBw h1 hlim
def Tryz.laysM178_ren : Go.Shelf.Ren := ⟨fun | 178 => 253 | 251 => 254 | 252 => 255 | 181 => 256 | 184 => 246 | 290 => 257 | 324 => 258 | n => n, fun | 130 => 74 | 9 => 9 | 3 => 3 | 75 => 57 | 0 => 0 | 93 => 72 | 91 => 70 | 131 => 265 | 4 => 4 | 37 => 35 | 20 => 20 | 80 => 59 | 5 => 5 | n => n, fun | 14 => 9 | n => n⟩
theorem Tryz.laysM178 : Go.Proofs.LaysM.n178 Tryz.prog Tryz.laysM178_ren := {
  mixed := by kernel_rfl
  f178 := Tryz.func253.trans (congrArg some (by kernel_rfl))
  f181 := Tryz.func256.trans (congrArg some (by kernel_rfl))
  f184 := Tryz.func246.trans (congrArg some (by kernel_rfl))
  f251 := Tryz.func254.trans (congrArg some (by kernel_rfl))
  f252 := Tryz.func255.trans (congrArg some (by kernel_rfl))
  f290 := Tryz.func257.trans (congrArg some (by kernel_rfl))
  f324 := Tryz.func258.trans (congrArg some (by kernel_rfl))
  t0 := Tryz.underlying0
  a0 := Tryz.isAgg0
  z0 := Tryz.sizeOf0
  v0 := Tryz.zeroValue0
  t3 := Tryz.underlying3
  a3 := Tryz.isAgg3
  z3 := Tryz.sizeOf3
  v3 := Tryz.zeroValue3
  t4 := Tryz.underlying4
  a4 := Tryz.isAgg4
  z4 := Tryz.sizeOf4
  v4 := Tryz.zeroValue4
  t9 := Tryz.underlying9
  a9 := Tryz.isAgg9
  z9 := Tryz.sizeOf9
  v9 := Tryz.zeroValue9
  t20 := Tryz.underlying20
  a20 := Tryz.isAgg20
  z20 := Tryz.sizeOf20
  v20 := Tryz.zeroValue20
  t37 := Tryz.underlying35
  a37 := Tryz.isAgg35
  z37 := Tryz.sizeOf35
  v37 := Tryz.zeroValue35
  t75 := Tryz.underlying57
  a75 := Tryz.isAgg57
  z75 := Tryz.sizeOf57
  v75 := Tryz.zeroValue57
  t91 := Tryz.underlying70
  a91 := Tryz.isAgg70
  z91 := Tryz.sizeOf70
  v91 := Tryz.zeroValue70
  t93 := Tryz.underlying72
  a93 := Tryz.isAgg72
  z93 := Tryz.sizeOf72
  v93 := Tryz.zeroValue72
  t130 := Tryz.underlying74
  a130 := Tryz.isAgg74
  z130 := Tryz.sizeOf74
  v130 := Tryz.zeroValue74
  t131 := Tryz.underlying265
  a131 := Tryz.isAgg265
  z131 := Tryz.sizeOf265
  v131 := Tryz.zeroValue265
  g14 := by kernel_rfl
  t5 := Tryz.underlying5
  a5 := Tryz.isAgg5
  z5 := Tryz.sizeOf5
  v5 := Tryz.zeroValue5
  t80 := Tryz.underlying59
  a80 := Tryz.isAgg59
  z80 := Tryz.sizeOf59
  v80 := Tryz.zeroValue59
  i0 := by kernel_rfl
  i3 := by kernel_rfl
  i4 := by kernel_rfl
  i5 := by kernel_rfl
  i9 := by kernel_rfl
  i20 := by kernel_rfl
  i37 := by kernel_rfl
  i75 := by kernel_rfl
  i80 := by kernel_rfl
  i91 := by kernel_rfl
  i93 := by kernel_rfl
  i130 := by kernel_rfl
  i131 := by kernel_rfl
  m14 := by kernel_rfl }
open Go.RowKit in
/-- (*bytes.Buffer).WriteString: "WriteString appends the contents of s to the buffer, growing the buffer as needed. The return value n is the length of s; err is always nil." (LAID: no walk: one application.) -/
theorem Tryz.Buffer_WriteString_kept (B b : Nat) (bs : List Value) (s : ByteArray) (w : World) (h : Lib.IsBuffer 72 5 B b bs w) (hBw : B ≤ w.heap.size) (h1 : ∀ v ∈ bs, v.oneCell' = true) (hlim : bs.length + s.size ≤ 140737488355328) :
    Calls Tryz.prog 253 #[.pointer (some ⟨b, 0, none⟩), .string s] w fun e w' => e = .returned (.tuple #[.int .i64 s.size, .nilIface]) ∧ Lib.IsBuffer 72 5 B b (bs ++ Lib.byteCells s.data.toList) w' ∧ Below B w w' ∧ Lib.OthersKept 5 (some b) w w' := Any.Buffer_WriteString_kept Tryz.laysM178 B b bs s w h hBw h1 hlim
def Tryz.laysM184_ren : Go.Shelf.Ren := ⟨fun | 184 => 246 | n => n, fun | 130 => 74 | 0 => 0 | 93 => 72 | 37 => 35 | 3 => 3 | 91 => 70 | 5 => 5 | n => n, fun | n => n⟩
theorem Tryz.laysM184 : Go.Proofs.LaysM.n184 Tryz.prog Tryz.laysM184_ren := {
  mixed := by kernel_rfl
  f184 := Tryz.func246.trans (congrArg some (by kernel_rfl))
  t0 := Tryz.underlying0
  a0 := Tryz.isAgg0
  z0 := Tryz.sizeOf0
  v0 := Tryz.zeroValue0
  t3 := Tryz.underlying3
  a3 := Tryz.isAgg3
  z3 := Tryz.sizeOf3
  v3 := Tryz.zeroValue3
  t37 := Tryz.underlying35
  a37 := Tryz.isAgg35
  z37 := Tryz.sizeOf35
  v37 := Tryz.zeroValue35
  t91 := Tryz.underlying70
  a91 := Tryz.isAgg70
  z91 := Tryz.sizeOf70
  v91 := Tryz.zeroValue70
  t93 := Tryz.underlying72
  a93 := Tryz.isAgg72
  z93 := Tryz.sizeOf72
  v93 := Tryz.zeroValue72
  t130 := Tryz.underlying74
  a130 := Tryz.isAgg74
  z130 := Tryz.sizeOf74
  v130 := Tryz.zeroValue74
  t5 := Tryz.underlying5
  a5 := Tryz.isAgg5
  z5 := Tryz.sizeOf5
  v5 := Tryz.zeroValue5
  i0 := by kernel_rfl
  i3 := by kernel_rfl
  i5 := by kernel_rfl
  i37 := by kernel_rfl
  i91 := by kernel_rfl
  i93 := by kernel_rfl
  i130 := by kernel_rfl }
open Go.RowKit in
/-- (*bytes.Buffer).Reset: "Reset resets the buffer to be empty, but it retains the underlying storage for use by future writes." (LAID: no walk: one application.) -/
theorem Tryz.Buffer_Reset_kept (B b : Nat) (bs : List Value) (w : World) (h : Lib.IsBuffer 72 5 B b bs w) :
    Calls Tryz.prog 246 #[.pointer (some ⟨b, 0, none⟩)] w fun e w' => e = .returned (.tuple #[]) ∧ Lib.IsBuffer 72 5 B b [] w' ∧ Below B w w' ∧ Lib.OthersKept 5 (some b) w w' := Any.Buffer_Reset_kept Tryz.laysM184 B b bs w h
open Go.RowKit in
theorem Tryz.Buffer_WriteByte_k (B b : Nat) (bs : List Value) (c : Int) (w : World) (h : Lib.IsBuffer 72 5 B b bs w) (hBw : B ≤ w.heap.size) (h1 : ∀ v ∈ bs, v.oneCell' = true) (hlim : bs.length + 1 ≤ 140737488355328) :
    Calls Tryz.prog 267 #[.pointer (some ⟨b, 0, none⟩), .int .u8 c] w fun e w' => e = .returned .nilIface ∧ Lib.IsBuffer 72 5 B b (bs ++ [.int .u8 c]) w' ∧ Below B w w' ∧ Lib.OthersKept 5 (some b) w w' := Any.Buffer_WriteByte_k Tryz.laysM179 B b bs c w h hBw h1 hlim
open Go.RowKit in
theorem Tryz.Buffer_WriteString_k (B b : Nat) (bs : List Value) (s : ByteArray) (w : World) (h : Lib.IsBuffer 72 5 B b bs w) (hBw : B ≤ w.heap.size) (h1 : ∀ v ∈ bs, v.oneCell' = true) (hlim : bs.length + s.size ≤ 140737488355328) :
    Calls Tryz.prog 253 #[.pointer (some ⟨b, 0, none⟩), .string s] w fun e w' => e = .returned (.tuple #[.int .i64 s.size, .nilIface]) ∧ Lib.IsBuffer 72 5 B b (bs ++ Lib.byteCells s.data.toList) w' ∧ Below B w w' ∧ Lib.OthersKept 5 (some b) w w' := Any.Buffer_WriteString_k Tryz.laysM178 B b bs s w h hBw h1 hlim
open Go.RowKit in
theorem Tryz.Buffer_Reset_k (B b : Nat) (bs : List Value) (w : World) (h : Lib.IsBuffer 72 5 B b bs w) :
    Calls Tryz.prog 246 #[.pointer (some ⟨b, 0, none⟩)] w fun e w' => e = .returned (.tuple #[]) ∧ Lib.IsBuffer 72 5 B b [] w' ∧ Below B w w' ∧ Lib.OthersKept 5 (some b) w w' := Any.Buffer_Reset_k Tryz.laysM184 B b bs w h
def Tryz.lays264_ren : Go.Shelf.Ren := ⟨fun | 264 => 56 | n => n, fun | 53 => 83 | 46 => 60 | n => n, fun | n => n⟩
theorem Tryz.lays264 : Go.Proofs.Lays.n264 Tryz.prog Tryz.lays264_ren := {
  mixed := by kernel_rfl
  f264 := Tryz.func56.trans (congrArg some (by kernel_rfl))
  t46 := Tryz.underlying60
  a46 := Tryz.isAgg60
  z46 := Tryz.sizeOf60
  v46 := Tryz.zeroValue60
  t53 := Tryz.underlying83
  a53 := Tryz.isAgg83
  z53 := Tryz.sizeOf83
  v53 := Tryz.zeroValue83 }
open Go.RowKit Go.Lib in
theorem Tryz.bits_Mul64 (x y : Nat) (hx : x < 18446744073709551616) (hy : y < 18446744073709551616) (w : World) :
    Calls Tryz.prog 56 #[.int .u64 x, .int .u64 y] w fun e w' => e = .returned (.tuple #[.int .u64 ((x * y / 18446744073709551616 : Nat) : Int), .int .u64 ((x * y % 18446744073709551616 : Nat) : Int)]) ∧ w' = w := Any.bits_Mul64 Tryz.lays264 x y hx hy w
def Tryz.lays212_ren : Go.Shelf.Ren := ⟨fun | 212 => 44 | 263 => 55 | 264 => 56 | n => n, fun | 46 => 60 | 51 => 80 | 146 => 81 | 53 => 83 | 148 => 84 | n => n, fun | n => n⟩
theorem Tryz.lays212 : Go.Proofs.Lays.n212 Tryz.prog Tryz.lays212_ren := {
  mixed := by kernel_rfl
  f212 := Tryz.func44.trans (congrArg some (by kernel_rfl))
  f263 := Tryz.func55.trans (congrArg some (by kernel_rfl))
  f264 := Tryz.func56.trans (congrArg some (by kernel_rfl))
  t46 := Tryz.underlying60
  a46 := Tryz.isAgg60
  z46 := Tryz.sizeOf60
  v46 := Tryz.zeroValue60
  t51 := Tryz.underlying80
  a51 := Tryz.isAgg80
  z51 := Tryz.sizeOf80
  v51 := Tryz.zeroValue80
  t53 := Tryz.underlying83
  a53 := Tryz.isAgg83
  z53 := Tryz.sizeOf83
  v53 := Tryz.zeroValue83
  t146 := Tryz.underlying81
  a146 := Tryz.isAgg81
  z146 := Tryz.sizeOf81
  v146 := Tryz.zeroValue81
  t148 := Tryz.underlying84
  a148 := Tryz.isAgg84
  z148 := Tryz.sizeOf84
  v148 := Tryz.zeroValue84 }
open Go.RowKit Go.Lib in
/-- math/bits.Mul: "Mul returns the full-width product of x and y": on a machine of 64 bits: Mul64's. (LAID: no walk: one application.) -/
theorem Tryz.bits_Mul (x y : Nat) (hx : x < 18446744073709551616) (hy : y < 18446744073709551616) (w : World) :
    Calls Tryz.prog 44 #[.int .u64 x, .int .u64 y] w fun e w' => e = .returned (.tuple #[.int .u64 ((x * y / 18446744073709551616 : Nat) : Int), .int .u64 ((x * y % 18446744073709551616 : Nat) : Int)]) ∧ w' = w := Any.bits_Mul Tryz.lays212 x y hx hy w
def Tryz.lays260_ren : Go.Shelf.Ren := ⟨fun | 260 => 169 | n => n, fun | 9 => 9 | 21 => 21 | 3 => 3 | 4 => 4 | 5 => 5 | 119 => 288 | 0 => 0 | 46 => 60 | 139 => 291 | 138 => 290 | n => n, fun | 3 => 2 | 4 => 3 | n => n⟩
theorem Tryz.lays260 : Go.Proofs.Lays.n260 Tryz.prog Tryz.lays260_ren := {
  mixed := by kernel_rfl
  f260 := Tryz.func169.trans (congrArg some (by kernel_rfl))
  t0 := Tryz.underlying0
  a0 := Tryz.isAgg0
  z0 := Tryz.sizeOf0
  v0 := Tryz.zeroValue0
  t3 := Tryz.underlying3
  a3 := Tryz.isAgg3
  z3 := Tryz.sizeOf3
  v3 := Tryz.zeroValue3
  t4 := Tryz.underlying4
  a4 := Tryz.isAgg4
  z4 := Tryz.sizeOf4
  v4 := Tryz.zeroValue4
  t5 := Tryz.underlying5
  a5 := Tryz.isAgg5
  z5 := Tryz.sizeOf5
  v5 := Tryz.zeroValue5
  t9 := Tryz.underlying9
  a9 := Tryz.isAgg9
  z9 := Tryz.sizeOf9
  v9 := Tryz.zeroValue9
  t21 := Tryz.underlying21
  a21 := Tryz.isAgg21
  z21 := Tryz.sizeOf21
  v21 := Tryz.zeroValue21
  t46 := Tryz.underlying60
  a46 := Tryz.isAgg60
  z46 := Tryz.sizeOf60
  v46 := Tryz.zeroValue60
  t119 := Tryz.underlying288
  a119 := Tryz.isAgg288
  z119 := Tryz.sizeOf288
  t138 := Tryz.underlying290
  a138 := Tryz.isAgg290
  z138 := Tryz.sizeOf290
  v138 := Tryz.zeroValue290
  t139 := Tryz.underlying291
  a139 := Tryz.isAgg291
  z139 := Tryz.sizeOf291
  v139 := Tryz.zeroValue291
  g3 := by kernel_rfl
  g4 := by kernel_rfl }
open Go.RowKit Go.Lib in
theorem Tryz.utf8_decodeRuneInStringSlow (s : ByteArray) (w : World) (hT : Lib.Utf8Tabs 2 3 w) :
    Calls Tryz.prog 169 #[.string s] w fun e w' => e = .returned (.tuple #[.int .i32 (Lib.decodeGo s).1, .int .i64 (Lib.decodeGo s).2]) ∧ Below w.heap.size w w' := Any.utf8_decodeRuneInStringSlow Tryz.lays260 s w hT
end Go.Proofs
