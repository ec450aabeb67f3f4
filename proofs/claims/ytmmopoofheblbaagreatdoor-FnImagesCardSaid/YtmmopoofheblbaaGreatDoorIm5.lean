/- Some texts of one proof, put into one file: Emph, Inline2, Trim, State4, AddLine, Head. -/
import Derived.Deep.LoopGhost
import Derived.Deep.RegionWith
import Derived.Test.YtmmopoofheblbaaGreatDoorIm2
import Derived.Test.YtmmopoofheblbaaGreatDoorIm4
/- emph changes nothing in a list without marks of emphasis. -/
namespace Go.Proofs.YtmmopoofheblbaaGreatDoor
open Go Go.RowKit Go.Proofs

theorem emph_facts {wr w1 wB : World} {b T : Nat} {v : Value} (h1 : Same wr w1) (h2 : Same w1 wB) (hD : Blk wr b #[v] T) :
    Same wr wB ∧ Blk wB b #[v] T ∧ wB.cell? ⟨b, 0, none⟩ = some v ∧ wB.frozen? ⟨b, 0, none⟩ = false ∧ b < wB.heap.size := by
  have h := h1.trans h2
  have hB := Same.blk h hD
  exact ⟨h, hB, hB.cell 0, hB.fr 0, hB.lt⟩

theorem emph_end {w wr wB : World} {b : Nat} {v : Value} (h1 : Same w wr) (h2 : Same wr wB) (hb : w.heap.size ≤ b) : Same w (wB.setCell ⟨b, 0, none⟩ v) :=
  (h1.trans h2).setCell (p := ⟨b, 0, none⟩) (fun h => absurd h (Nat.not_lt.2 hb)) v

set_option maxRecDepth 100000 in
set_option maxHeartbeats 8000000 in
theorem emph_id (q : Value) (g n cap : Nat) (xs : List Value) (ps : List Pc) (w : World) (hown : w.ownsRow 0 157 1 (.slice (some ⟨g, 0, none⟩) n cap) n xs) (hx : PcsAt w xs ps) (hn : n ≤ 1000000) :
    Calls Tryz.prog 117 #[q, .slice (some ⟨g, 0, none⟩) 0 cap, .slice (some ⟨g, 0, none⟩) n cap] w fun e w' => e = .returned (.slice (some ⟨g, 0, none⟩) n cap) ∧ Same w w' := by
  have hcap : n ≤ cap := by
    rcases hown.2 with ⟨h, _⟩ | ⟨_, _, _, h, _, _, hc, _⟩
    · cases h
    · cases h; exact hc
  go_enter Tryz.func117, Tryz.ntmps117
  go_wp2_with fail
  go_step3
  go_wp2_with fail
  go_step3
  go_wp2_with fail
  generalize hW : (World.alloc _ _ : World) = W
  have hS : Same w W := by subst hW; exact ((Mods.refl _ w).alloc _).alloc _
  have hD : Blk W w.heap.size #[.slice (some ⟨g, 0, none⟩) 0 cap] 84 := by subst hW; exact (Blk.newAt _ _ rfl).alloc _
  clear hW
  refine wp_loop_ghost_k (fun m a wr => ∃ (i : Nat) (v : Nat → Value), (m = n - i ∧ i ≤ n ∧ Same w wr ∧ Blk wr w.heap.size #[.slice (some ⟨g, 0, none⟩) i cap] 84) ∧
    a = ⟨#[q, .slice (some ⟨g, 0, none⟩) 0 cap, .slice (some ⟨g, 0, none⟩) n cap, undef, .pointer (some ⟨w.heap.size, 0, none⟩), undef, .slice none 0 0, .pointer (some ⟨w.heap.size + 1, 0, none⟩), .func (.func 159) #[] #[], .func (.func 160) #[] #[.pointer (some ⟨w.heap.size + 1, 0, none⟩), .pointer (some ⟨w.heap.size, 0, none⟩)], .int .i64 i, v 11, v 12, v 13, v 14, v 15, v 16, v 17, v 18, v 19, v 20, v 21, .func (.func 160) #[] #[.pointer (some ⟨w.heap.size + 1, 0, none⟩), .pointer (some ⟨w.heap.size, 0, none⟩)], v 23, v 24, v 25, v 26, v 27, v 28, v 29, v 30, v 31, v 32, v 33, v 34, v 35, v 36, v 37, v 38, v 39, v 40, v 41, v 42, v 43, v 44, v 45, v 46, v 47, v 48, v 49, v 50, v 51, v 52, v 53, v 54, v 55, v 56, v 57, v 58, v 59, v 60, v 61, v 62, v 63, v 64, v 65, v 66, v 67, v 68, v 69, v 70, v 71, v 72, v 73, v 74, v 75, v 76, v 77, v 78, v 79, v 80, v 81, v 82, v 83, v 84, v 85, v 86, v 87, v 88, v 89, v 90, v 91, v 92, v 93, v 94, v 95, v 96, v 97, v 98, v 99, v 100, v 101, v 102, v 103, v 104, v 105, v 106, v 107, v 108, v 109, v 110, v 111, v 112, v 113, v 114, v 115, v 116, v 117, v 118, v 119, v 120, v 121, v 122, v 123, v 124, v 125, v 126, v 127, v 128, v 129, v 130, v 131, v 132, v 133, v 134, v 135, v 136, v 137, v 138, v 139, v 140, v 141, v 142, v 143, v 144, v 145, v 146, v 147, v 148, v 149, v 150, v 151, v 152, v 153, v 154, v 155, v 156, v 157, v 158, v 159, v 160, v 161, v 162, v 163, v 164, v 165, v 166, v 167, v 168, v 169, v 170, v 171, v 172, v 173, v 174, v 175, v 176, v 177, v 178, v 179, v 180, v 181, v 182, v 183, v 184, v 185, v 186, v 187, v 188, v 189, v 190, v 191, v 192, v 193, v 194, v 195, v 196, v 197, v 198, v 199, v 200, v 201, v 202, v 203, v 204, v 205, v 206, v 207, v 208, v 209, v 210, v 211, v 212, v 213, v 214, v 215, v 216, v 217, v 218, v 219, v 220, v 221, v 222, v 223, v 224, v 225, v 226, v 227, v 228, v 229, v 230, v 231, v 232, v 233, v 234, v 235, v 236, v 237, v 238, v 239, v 240, v 241, v 242, v 243, v 244, v 245, v 246, v 247, v 248, v 249, v 250, v 251, v 252, v 253, v 254, v 255, v 256, v 257, v 258, v 259, v 260, v 261, v 262, v 263, v 264, v 265, v 266, v 267, v 268, v 269, v 270, v 271, v 272, v 273, v 274, v 275, v 276, v 277, v 278, v 279, v 280, v 281, v 282, v 283, v 284, v 285, v 286, v 287, v 288, v 289, v 290, v 291, v 292, v 293, v 294, v 295, v 296, v 297, v 298, v 299, v 300, v 301, v 302, v 303, v 304, v 305, v 306, v 307, v 308, v 309, v 310, v 311, v 312, v 313, v 314, v 315, v 316, v 317, v 318, v 319, v 320, v 321, v 322, v 323, v 324, v 325, v 326, v 327, v 328, v 329, v 330, v 331, v 332, v 333, v 334, v 335, v 336, v 337, v 338, v 339, v 340, v 341, v 342, v 343, v 344, v 345, v 346, v 347, v 348, v 349, v 350, v 351, v 352, v 353, v 354, v 355, v 356, v 357, v 358, v 359, v 360, v 361, v 362, v 363, v 364, v 365, v 366, v 367, v 368, v 369, v 370, v 371, v 372, v 373, v 374, v 375, v 376, v 377, v 378, v 379, v 380, v 381, v 382, v 383, v 384, v 385, v 386, v 387, v 388, v 389, v 390, v 391, v 392, v 393, v 394, v 395, v 396, v 397, v 398, v 399, v 400, v 401, v 402, v 403, v 404, v 405, v 406, v 407, v 408, v 409, v 410, v 411, v 412, v 413, v 414, v 415, v 416, v 417, v 418, v 419, v 420, v 421, v 422, v 423, v 424, v 425, v 426, v 427, v 428, v 429, v 430, v 431, v 432, v 433, v 434, v 435], []⟩) n ⟨0, fun _ => undef, ⟨rfl, Nat.zero_le _, hS, hD⟩, rfl⟩ ?_
  · clear hS hD
    intro gk a wr hinv
    obtain ⟨i, v, ⟨rfl, hi, hm, hD⟩, rfl⟩ := hinv
    intro J K hJ hK
    have hownr := ownsRow_keep hown hm (fun _ _ x => x)
    have hxr := hx.keep hm (fun _ _ _ _ _ x => x)
    have w1 : IntKind.i64.wrap ((i : Int) + 1) = (i : Int) + 1 := IntWalk.i64_in _ (by omega)
    have w2 : (0 : Int) ≤ i := by omega
    have hDc : wr.cell? ⟨w.heap.size, 0, none⟩ = some (.slice (some ⟨g, 0, none⟩) i cap) := hD.cell 0
    have hDf : wr.frozen? ⟨w.heap.size, 0, none⟩ = false := hD.fr 0
    have hDl := hD.lt
    have hDn : w.heap.size ≤ w.heap.size := Nat.le_refl _
    have HM := Lib.hid hm
    clear hm
    by_cases hlt : i < n
    · have w3 : (i : Int) < n := by omega
      obtain ⟨b, T, hc, hxi, h1, h2⟩ := piece_quiet hownr hxr i hlt
      all_goals
        go_wp2_with fail
        have hS : ∀ o, Same wr ((wr.alloc o).drew) := fun o => ((Mods.refl (fun _ => False) wr).alloc o).drew
        go_region_law (refine st_same_inl rfl (.tmp 55) (.tmp 60) rfl g i n cap xs (ownsRow_keep hownr (hS _) (fun _ _ x => x)) hlt _ hxi rfl wr.heap.size 1 rfl rfl ((Blk.drew (Blk.newAt _ _ rfl)).cell 0) ?_; intro wB hmB; obtain ⟨hm2, hD2, hDc', hDf', hDl'⟩ := emph_facts (hS _) hmB hD)
        all_goals
          go_wp2_with fail
          refine Handed.intro (n - (i + 1)) (by omega) (hJ _ _ _ ⟨i + 1, (fun d => cond (Nat.ble 11 d && Nat.ble d 61) (cond (Nat.ble d 42) (cond (Nat.ble d 26) (List.getD [_, _, _, _, _, _, _, _, _, _, _, undef, _, _, _, _] (d - 11) undef) (List.getD [_, _, _, _, _, _, _, _, _, _, _, _, _, _, _, _] (d - 27) undef)) (cond (Nat.ble d 58) (List.getD [_, _, _, _, _, _, _, _, _, _, _, _, _, _, _, _] (d - 43) undef) (List.getD [_, _, _] (d - 59) undef))) (v d)), ⟨rfl, by omega, emph_end HM.out hm2 hDn, Blk.set_same hD2 0 _⟩, rfl⟩)
    · have hin : i = n := by omega
      subst hin
      have w3 : ¬ ((i : Int) < i) := by omega
      go_wp2_with fail
      go_ret
      exact ⟨rfl, HM.out⟩
end Go.Proofs.YtmmopoofheblbaaGreatDoor

/- inline on a text of plain bytes and escaped signs: the walk. -/
namespace Go.Proofs.YtmmopoofheblbaaGreatDoor
open Go Go.RowKit Go.Proofs

theorem NoPP.nil : NoPP [] := fun i s t h => by cases i <;> cases h
theorem NoPP.one (p : Pc) : NoPP [p] := fun i s t _ h => by cases i <;> cases h
theorem NoPP.piece {ps : List Pc} {pc : Pc} (ho : ∀ t, pc ≠ .plain t) (h : NoPP ps) : NoPP (pc :: ps) := fun i a b h1 h2 => by
  cases i with
  | zero => simp at h1; exact ho a h1
  | succ i => simp at h1 h2; exact h i a b h1 h2
theorem NoPP.plain {ps : List Pc} {s : ByteArray} {pc : Pc} (ho : ∀ t, pc ≠ .plain t) (h : NoPP (pc :: ps)) : NoPP (.plain s :: pc :: ps) := fun i a b h1 h2 => by
  cases i with
  | zero => simp at h2; exact ho b h2
  | succ i => simp at h1 h2; exact h i a b (by simpa using h1) (by simpa using h2)

theorem plan_alt {s : ByteArray} {k e : Nat} {r : List Pc} (h : Plan s k e r) : NoPP r := by
  induction h with
  | fin e =>
    split
    · exact NoPP.one _
    · exact NoPP.nil
  | dull _ _ _ ih => exact ih
  | piece _ _ _ pc _ _ _ _ _ _ _ ho _ ih =>
    split
    · exact NoPP.plain ho (NoPP.piece ho ih)
    · exact NoPP.piece ho ih

theorem plan_ne {s : ByteArray} {k e : Nat} {r : List Pc} (h : Plan s k e r) : e < s.size → r ≠ [] := by
  induction h with
  | fin e => intro h; rw [if_pos h]; simp
  | dull _ _ _ ih => exact ih
  | piece _ _ _ _ _ _ _ _ _ _ _ _ _ _ => intro _; simp

theorem plan_end {s : ByteArray} {e : Nat} {r : List Pc} (h : Plan s s.size e r) : r = if e < s.size then [.plain (s.extract e s.size)] else [] := by
  generalize hk : s.size = k at h
  cases h with
  | fin e => rfl
  | dull h1 _ _ => omega
  | piece h1 _ _ _ _ _ _ _ _ _ _ _ _ => omega

theorem plan_cases {s : ByteArray} {k e : Nat} {r : List Pc} (h : Plan s k e r) :
    (∃ hk : k < s.size, dull s[k] = true ∧ Plan s (k + 1) e r) ∨
    (∃ (hk : k < s.size) (fn : Nat) (pc : Pc) (st en : Nat) (r' : List Pc), Starts s[k] fn ∧ e ≤ st ∧ st ≤ k ∧ k < en ∧ en ≤ s.size ∧ PieceCall s k fn pc st en ∧ Plan s en en r' ∧ r = (if e < st then [.plain (s.extract e st)] else []) ++ pc :: r') ∨ k = s.size := by
  cases h with
  | fin e => exact Or.inr (Or.inr rfl)
  | dull h1 h2 h3 => exact Or.inl ⟨h1, h2, h3⟩
  | piece h1 fn h2 pc st en h3 h4 h5 h6 h7 _ h8 => exact Or.inr (Or.inl ⟨h1, fn, pc, st, en, _, h2, h3, h4, h5, h6, h7, h8, rfl⟩)

theorem Held.again {w0 w w' : World} {bp : Nat} {p : PSt} {s : ByteArray} {e n : Nat} {lv : Value} {xs : List Value} {pcs : List Pc} (h : Held w0 w bp p s e n lv xs pcs) (hm : Same w w') :
    Held w0 (w'.setCell ⟨bp, 9, none⟩ lv) bp p s e n lv xs pcs :=
  (h.same hm).skipped ((Mods.refl (fun k => k = bp) w').setCell (p := ⟨bp, 9, none⟩) (fun _ => rfl) _) (((h.same hm).at_).set 9 _ _ rfl (by decide))

set_option maxRecDepth 100000 in
set_option maxHeartbeats 8000000 in
theorem inline_any (bp : Nat) (p : PSt) (s : ByteArray) (w : World) (hp : PsAt w bp p) (hs : s.size ≤ 900000) (h0 : 0 < s.size) (all : List Pc) (hg : Plan s 0 0 all) (hO : Opt w p 3 false) (hpb : p.parser ≠ bp)
    (hT : Calls Tryz.prog 100 #[.string s] w fun e w' => e = .returned (.string s) ∧ w = w') :
    Calls Tryz.prog 83 #[.pointer (some ⟨bp, 0, none⟩), .string s] w fun e w' => ∃ g n cap xs, e = .returned (.slice (some ⟨g, 0, none⟩) n cap) ∧ 0 < n ∧ n ≤ s.size + 1 ∧ ∃ c, Held w w' bp { p with corner := c } s s.size n (.slice (some ⟨g, 0, none⟩) n cap) xs all := by
  have hl := hp.lt
  have f7 := hp.fr 7
  have f8 := hp.fr 8
  have f9 := hp.fr 9
  have k7 := hp.s
  have k8 := hp.emitted
  have k9 := hp.list
  go_enter Tryz.func83, Tryz.ntmps83
  go_wp2_with fail
  refine hT.mono ?_
  rintro e w' ⟨rfl, rfl⟩
  go_wp2_with fail
  generalize hW : (World.setCell _ _ _ : World) = W
  have hne := plan_ne hg h0
  have hno := plan_alt hg
  have hG : Going w W bp p s all 0 := by
    subst hW
    refine ⟨Nat.zero_le _, p.corner, 0, 0, .slice none 0 0, [], [], all, Nat.le_refl _, Nat.le_refl _, ⟨?_, ?_, ⟨rfl, Or.inl ⟨rfl, rfl⟩⟩, trivial, (fun _ h => by cases h)⟩, hg, rfl⟩
    · exact (((Mods.refl (fun b => b = bp) w).setCell (p := ⟨bp, 7, none⟩) (fun _ => rfl) _).setCell (p := ⟨bp, 9, none⟩) (fun _ => rfl) _).setCell (p := ⟨bp, 8, none⟩) (fun _ => rfl) _
    · exact ((hp.set 7 _ { p with s := s } rfl (by decide)).set 9 _ { p with s := s, list := .slice none 0 0 } rfl (by decide)).set 8 _ _ rfl (by decide)
  clear hW hT hg f7 f8 f9 k7 k8 k9 hl
  refine wp_loop_ghost_k (fun m a wr => ∃ (k : Nat) (v : Nat → Value), (m = s.size - k ∧ Going w wr bp p s all k) ∧
    a = ⟨#[.pointer (some ⟨bp, 0, none⟩), .string s, undef, undef, .slice none 0 0, .slice none 0 0, .int .i64 0, .bool false, .int .i64 k, v 9, v 10, v 11, v 12, v 13, v 14, v 15, v 16, v 17, v 18, v 19, v 20, .string s, .string s, .pointer (some ⟨bp, 0, none⟩), .string s, .pointer (some ⟨bp, 0, none⟩), .pointer (some ⟨bp, 7, none⟩), .pointer (some ⟨bp, 0, none⟩), .pointer (some ⟨bp, 0, none⟩), .pointer (some ⟨bp, 9, none⟩), .pointer (some ⟨bp, 0, none⟩), .pointer (some ⟨bp, 0, none⟩), .pointer (some ⟨bp, 8, none⟩), v 33, v 34, v 35, v 36, v 37, v 38, v 39, v 40, v 41, v 42, v 43, v 44, v 45, v 46, v 47, v 48, v 49, v 50, v 51, v 52, v 53, v 54, v 55, v 56, v 57, v 58, v 59, v 60, v 61, v 62, v 63, v 64, v 65, v 66, v 67, v 68, v 69, v 70, v 71, v 72, v 73, v 74, v 75, v 76, v 77, v 78, v 79, v 80, v 81, v 82, v 83, v 84, v 85, v 86, v 87, v 88, v 89, v 90, v 91, v 92, v 93, v 94, v 95, v 96, v 97, v 98, v 99, v 100, v 101, v 102, v 103, v 104, v 105, v 106, v 107, v 108, v 109, v 110, v 111, v 112, v 113, v 114, v 115, v 116, v 117, v 118, v 119, v 120, v 121, v 122, v 123, v 124, v 125, v 126, v 127, v 128, v 129, v 130, v 131, v 132, v 133, v 134, v 135, v 136, v 137, v 138, v 139, v 140, v 141, v 142, v 143, v 144, v 145, v 146, v 147, v 148, v 149, v 150, v 151, v 152, v 153, v 154, v 155, v 156, v 157, v 158, v 159, v 160, v 161, v 162, v 163, v 164, v 165, v 166, v 167, v 168, v 169, v 170, v 171, v 172, v 173, v 174, v 175, v 176, v 177, v 178, v 179, v 180, v 181, v 182, v 183, v 184, v 185, v 186, v 187, v 188, v 189, v 190, v 191, v 192, v 193, v 194, v 195, v 196, v 197, v 198, v 199, v 200, v 201, v 202, v 203, v 204, v 205, v 206, v 207, v 208, v 209, v 210, v 211, v 212, v 213, v 214, v 215, v 216, v 217, v 218, v 219, v 220, v 221, v 222, v 223, v 224, v 225, v 226, v 227, v 228, v 229, v 230, v 231, v 232, v 233, v 234, v 235, v 236, v 237, v 238, v 239, v 240, v 241, v 242, v 243, v 244, v 245, v 246, v 247, v 248, v 249, v 250, v 251, v 252, v 253, v 254, v 255, v 256, v 257, v 258, v 259, v 260, v 261, v 262, v 263, v 264, v 265, v 266, v 267, v 268, v 269, v 270, v 271, v 272, v 273, v 274, v 275, v 276, v 277, v 278, v 279, v 280, v 281, v 282, v 283, v 284, v 285, v 286, v 287, v 288, v 289, v 290, v 291, v 292, v 293, v 294, v 295, v 296, v 297, v 298, v 299, v 300, v 301, v 302, v 303, v 304, v 305, v 306, v 307, v 308, v 309, v 310, v 311, v 312, v 313, v 314, v 315, v 316, v 317, v 318, v 319, v 320, v 321, v 322, v 323, v 324, v 325, v 326, v 327, v 328, v 329, v 330, v 331, v 332, v 333, v 334], []⟩) s.size ⟨0, fun _ => undef, ⟨rfl, hG⟩, rfl⟩ ?_
  · intro gk a wr hinv
    obtain ⟨k, v, ⟨rfl, hG⟩, rfl⟩ := hinv
    intro J K hJ hK
    have HNE := Lib.hid hne
    have HNO := Lib.hid hno
    clear hne hno
    obtain ⟨hle, c0, e, n, lv, xs, pcs, r, he, hn, hh, hpl, hsc⟩ := hG
    rcases plan_cases hpl with ⟨hk, hd, hp2⟩ | ⟨hk, fn, pc, st, en, r', hb, h1, h2, h3, h4, hcall, hp2, hr⟩ | hk
    · have w1 : (k : Int) < s.size := by omega
      have w2 : (0 : Int) ≤ k := by omega
      have w3 : IntKind.i64.wrap ((k : Int) + 1) = (k : Int) + 1 := IntWalk.i64_in _ (by omega)
      have d1 : ((s[k].toNat : Int) == 92) = false := dull_ne hd 92 rfl
      have d2 : ((s[k].toNat : Int) == 96) = false := dull_ne hd 96 rfl
      have d3 : ((s[k].toNat : Int) == 60) = false := dull_ne hd 60 rfl
      have d4 : ((s[k].toNat : Int) == 91) = false := dull_ne hd 91 rfl
      have d5 : ((s[k].toNat : Int) == 33) = false := dull_ne hd 33 rfl
      have d6 : ((s[k].toNat : Int) == 95) = false := dull_ne hd 95 rfl
      have d7 : ((s[k].toNat : Int) == 42) = false := dull_ne hd 42 rfl
      have d8 : ((s[k].toNat : Int) == 46) = false := dull_ne hd 46 rfl
      have d9 : ((s[k].toNat : Int) == 45) = false := dull_ne hd 45 rfl
      have d10 : ((s[k].toNat : Int) == 34) = false := dull_ne hd 34 rfl
      have d11 : ((s[k].toNat : Int) == 39) = false := dull_ne hd 39 rfl
      have d12 : ((s[k].toNat : Int) == 126) = false := dull_ne hd 126 rfl
      have d13 : ((s[k].toNat : Int) == 10) = false := dull_ne hd 10 rfl
      have d14 : ((s[k].toNat : Int) == 38) = false := dull_ne hd 38 rfl
      have d15 : ((s[k].toNat : Int) == 58) = false := dull_ne hd 58 rfl
      have hG2 : Going w wr bp p s all (k + 1) := ⟨hk, c0, e, n, lv, xs, pcs, r, by omega, hn, hh, hp2, hsc⟩
      have HG2 := Lib.hid hG2
      have hE := eql_nil_nil
      clear hG2 hd hp2 hpl hsc hh
      go_wp2_with fail
      all_goals
        exact Handed.intro (s.size - (k + 1)) (by omega) (hJ _ _ _ ⟨k + 1, (fun d => cond (Nat.ble 9 d && Nat.ble d 15) (List.getD [_, _, _, _, _, _, _] (d - 9) undef) (cond (Nat.ble 33 d && Nat.ble d 165) (cond (Nat.ble d 96) (cond (Nat.ble d 64) (cond (Nat.ble d 48) (List.getD [_, _, _, _, _, _, _, _, _, _, _, _, _, _, _, _] (d - 33) undef) (List.getD [_, _, _, _, _, _, _, _, _, _, _, _, _, _, _, _] (d - 49) undef)) (cond (Nat.ble d 80) (List.getD [_, _, _, _, _, _, _, _, _, _, _, _, _, _, _, _] (d - 65) undef) (List.getD [_, _, _, _, _, _, _, _, _, _, _, _, _, _, _, _] (d - 81) undef))) (cond (Nat.ble d 128) (cond (Nat.ble d 112) (List.getD [_, _, _, _, _, _, _, _, _, _, _, _, _, _, _, _] (d - 97) undef) (List.getD [_, _, _, _, _, _, _, _, _, _, _, _, _, _, _, _] (d - 113) undef)) (cond (Nat.ble d 144) (List.getD [_, _, _, _, _, _, _, _, _, _, _, _, _, _, _, _] (d - 129) undef) (cond (Nat.ble d 160) (List.getD [_, _, _, _, _, _, _, _, _, _, _, _, _, _, _, _] (d - 145) undef) (List.getD [_, _, _, _, _] (d - 161) undef))))) (cond (Nat.ble 293 d && Nat.ble d 294) (List.getD [_, _] (d - 293) undef) (v d)))), ⟨rfl, HG2.out⟩, rfl⟩)
    · have w1 : (k : Int) < s.size := by omega
      have w2 : (0 : Int) ≤ k := by omega
      have HSC := Lib.hid hsc
      have HR := Lib.hid hr
      have HP2 := Lib.hid hp2
      have HCALL := Lib.hid hcall
      have HB := pc.bty_is
      clear hsc hr hp2 hcall hpl
      have hE := eql_func_nil
      have hO := as_openPlain_no pc
      rcases hb with ⟨hc, rfl⟩ | ⟨hc, rfl⟩ | ⟨hc, rfl⟩
      · have d1 : ((s[k].toNat : Int) == 92) = true := by rw [hc]; rfl
        clear hc
        go_wp2_with fail
        refine (HCALL.out bp _ wr hh.at_).mono ?_
        rintro e' wA ⟨b, c1, rfl, hmA, hpA, hbn, hbA⟩
        have hhA : Held w wA bp { p with corner := c1 } s e n lv xs pcs := hh.cornered hmA hpA
        clear hmA hpA hh
        go_wp2_with fail
        refine (emit_held hhA st h1 (by omega) (by omega) (by omega)).mono ?_
        rintro e' wB ⟨rfl, n', lv', xs', hn', hmB, hB⟩
        have hbB := hbA.keep hmB (pcs_safe hhA.at_ hhA.row b _ _ hbA HB)
        have hnn : n' ≤ st ∨ n' = n := by
          have e1 := hB.pcs.length
          have e2 := hB.row.1
          have e3 := hhA.pcs.length
          have e4 := hhA.row.1
          rw [List.length_append] at e1
          by_cases hlt : e < st
          · left; omega
          · rw [if_neg hlt] at e1
            right
            simp at e1
            omega
        have k9 := hB.at_.list
        have hl9 := hB.at_.lt
        clear hmB hbA hhA
        go_wp2_with (at_builtin; refine ap_inl rfl (.tmp 147) (.tmp 149) rfl lv' n' xs' rfl (hB.row.alloc _) wB.heap.size 1 _ (.pointer (some ⟨b, 0, none⟩)) rfl ((Blk.newAt _ _ rfl).cell 0) (by omega) ?_)
        intro g cap wC hown1 hgrow hloc
        obtain ⟨k9', f9', hl9'⟩ := hB.push_at hgrow
        have hP := hB.push hown1 hgrow hloc hbB
        clear hgrow hloc hown1 k9 hl9
        go_wp2_with fail
        refine (skip_any bp _ _ _ hP.at_).mono ?_
        rintro e' wD ⟨rfl, hmD, hpD⟩
        go_wp2_with fail
        exact Handed.intro (s.size - en) (by omega) (hJ _ _ _ ⟨en, (fun d => cond (Nat.ble 9 d && Nat.ble d 15) (List.getD [_, _, _, _, _, _, _] (d - 9) undef) (cond (Nat.ble 33 d && Nat.ble d 165) (cond (Nat.ble d 96) (cond (Nat.ble d 64) (cond (Nat.ble d 48) (List.getD [_, _, _, _, _, _, _, _, _, _, _, _, _, _, _, _] (d - 33) undef) (List.getD [_, _, _, _, _, _, _, _, _, _, _, _, _, _, _, _] (d - 49) undef)) (cond (Nat.ble d 80) (List.getD [_, _, _, _, _, _, _, _, _, _, _, _, _, _, _, _] (d - 65) undef) (List.getD [_, _, _, _, _, _, _, _, _, _, _, _, _, _, _, _] (d - 81) undef))) (cond (Nat.ble d 128) (cond (Nat.ble d 112) (List.getD [_, _, _, _, _, _, _, _, _, _, _, _, _, _, _, _] (d - 97) undef) (List.getD [_, _, _, _, _, _, _, _, _, _, _, _, _, _, _, _] (d - 113) undef)) (cond (Nat.ble d 144) (List.getD [_, _, _, _, _, _, _, _, _, _, _, _, _, _, _, _] (d - 129) undef) (cond (Nat.ble d 160) (List.getD [_, _, _, _, _, _, _, _, _, _, _, _, _, _, _, _] (d - 145) undef) (List.getD [_, _, _, _, _] (d - 161) undef))))) (cond (Nat.ble 293 d && Nat.ble d 294) (List.getD [_, _] (d - 293) undef) (v d)))), ⟨rfl, h4, c1, en, n' + 1, _, _, _, r', Nat.le_refl _, by omega, hP.skipped hmD hpD, HP2.out, by rw [← HSC.out, HR.out]; simp⟩, rfl⟩)
      · have d1 : ((s[k].toNat : Int) == 92) = false := by rw [hc]; rfl
        have d2 : ((s[k].toNat : Int) == 96) = false := by rw [hc]; rfl
        have d3 : ((s[k].toNat : Int) == 60) = true := by rw [hc]; rfl
        clear hc
        go_wp2_with fail
        refine (HCALL.out bp _ wr hh.at_).mono ?_
        rintro e' wA ⟨b, c1, rfl, hmA, hpA, hbn, hbA⟩
        have hhA : Held w wA bp { p with corner := c1 } s e n lv xs pcs := hh.cornered hmA hpA
        clear hmA hpA hh
        go_wp2_with fail
        refine (emit_held hhA st h1 (by omega) (by omega) (by omega)).mono ?_
        rintro e' wB ⟨rfl, n', lv', xs', hn', hmB, hB⟩
        have hbB := hbA.keep hmB (pcs_safe hhA.at_ hhA.row b _ _ hbA HB)
        have hnn : n' ≤ st ∨ n' = n := by
          have e1 := hB.pcs.length
          have e2 := hB.row.1
          have e3 := hhA.pcs.length
          have e4 := hhA.row.1
          rw [List.length_append] at e1
          by_cases hlt : e < st
          · left; omega
          · rw [if_neg hlt] at e1
            right
            simp at e1
            omega
        have k9 := hB.at_.list
        have hl9 := hB.at_.lt
        clear hmB hbA hhA
        go_wp2_with (at_builtin; refine ap_inl rfl (.tmp 147) (.tmp 149) rfl lv' n' xs' rfl (hB.row.alloc _) wB.heap.size 1 _ (.pointer (some ⟨b, 0, none⟩)) rfl ((Blk.newAt _ _ rfl).cell 0) (by omega) ?_)
        intro g cap wC hown1 hgrow hloc
        obtain ⟨k9', f9', hl9'⟩ := hB.push_at hgrow
        have hP := hB.push hown1 hgrow hloc hbB
        clear hgrow hloc hown1 k9 hl9
        go_wp2_with fail
        refine (skip_any bp _ _ _ hP.at_).mono ?_
        rintro e' wD ⟨rfl, hmD, hpD⟩
        go_wp2_with fail
        exact Handed.intro (s.size - en) (by omega) (hJ _ _ _ ⟨en, (fun d => cond (Nat.ble 9 d && Nat.ble d 15) (List.getD [_, _, _, _, _, _, _] (d - 9) undef) (cond (Nat.ble 33 d && Nat.ble d 165) (cond (Nat.ble d 96) (cond (Nat.ble d 64) (cond (Nat.ble d 48) (List.getD [_, _, _, _, _, _, _, _, _, _, _, _, _, _, _, _] (d - 33) undef) (List.getD [_, _, _, _, _, _, _, _, _, _, _, _, _, _, _, _] (d - 49) undef)) (cond (Nat.ble d 80) (List.getD [_, _, _, _, _, _, _, _, _, _, _, _, _, _, _, _] (d - 65) undef) (List.getD [_, _, _, _, _, _, _, _, _, _, _, _, _, _, _, _] (d - 81) undef))) (cond (Nat.ble d 128) (cond (Nat.ble d 112) (List.getD [_, _, _, _, _, _, _, _, _, _, _, _, _, _, _, _] (d - 97) undef) (List.getD [_, _, _, _, _, _, _, _, _, _, _, _, _, _, _, _] (d - 113) undef)) (cond (Nat.ble d 144) (List.getD [_, _, _, _, _, _, _, _, _, _, _, _, _, _, _, _] (d - 129) undef) (cond (Nat.ble d 160) (List.getD [_, _, _, _, _, _, _, _, _, _, _, _, _, _, _, _] (d - 145) undef) (List.getD [_, _, _, _, _] (d - 161) undef))))) (cond (Nat.ble 293 d && Nat.ble d 294) (List.getD [_, _] (d - 293) undef) (v d)))), ⟨rfl, h4, c1, en, n' + 1, _, _, _, r', Nat.le_refl _, by omega, hP.skipped hmD hpD, HP2.out, by rw [← HSC.out, HR.out]; simp⟩, rfl⟩)
      · have d1 : ((s[k].toNat : Int) == 92) = false := by rw [hc]; rfl
        have d2 : ((s[k].toNat : Int) == 96) = false := by rw [hc]; rfl
        have d3 : ((s[k].toNat : Int) == 60) = false := by rw [hc]; rfl
        have d4 : ((s[k].toNat : Int) == 91) = false := by rw [hc]; rfl
        have d5 : ((s[k].toNat : Int) == 33) = false := by rw [hc]; rfl
        have d6 : ((s[k].toNat : Int) == 95) = false := by rw [hc]; rfl
        have d7 : ((s[k].toNat : Int) == 42) = false := by rw [hc]; rfl
        have d8 : ((s[k].toNat : Int) == 46) = false := by rw [hc]; rfl
        have d9 : ((s[k].toNat : Int) == 45) = false := by rw [hc]; rfl
        have d10 : ((s[k].toNat : Int) == 34) = false := by rw [hc]; rfl
        have d11 : ((s[k].toNat : Int) == 39) = false := by rw [hc]; rfl
        have d12 : ((s[k].toNat : Int) == 126) = false := by rw [hc]; rfl
        have d13 : ((s[k].toNat : Int) == 10) = true := by rw [hc]; rfl
        clear hc
        go_wp2_with fail
        refine (HCALL.out bp _ wr hh.at_).mono ?_
        rintro e' wA ⟨b, c1, rfl, hmA, hpA, hbn, hbA⟩
        have hhA : Held w wA bp { p with corner := c1 } s e n lv xs pcs := hh.cornered hmA hpA
        clear hmA hpA hh
        go_wp2_with fail
        refine (emit_held hhA st h1 (by omega) (by omega) (by omega)).mono ?_
        rintro e' wB ⟨rfl, n', lv', xs', hn', hmB, hB⟩
        have hbB := hbA.keep hmB (pcs_safe hhA.at_ hhA.row b _ _ hbA HB)
        have hnn : n' ≤ st ∨ n' = n := by
          have e1 := hB.pcs.length
          have e2 := hB.row.1
          have e3 := hhA.pcs.length
          have e4 := hhA.row.1
          rw [List.length_append] at e1
          by_cases hlt : e < st
          · left; omega
          · rw [if_neg hlt] at e1
            right
            simp at e1
            omega
        have k9 := hB.at_.list
        have hl9 := hB.at_.lt
        clear hmB hbA hhA
        go_wp2_with (at_builtin; refine ap_inl rfl (.tmp 147) (.tmp 149) rfl lv' n' xs' rfl (hB.row.alloc _) wB.heap.size 1 _ (.pointer (some ⟨b, 0, none⟩)) rfl ((Blk.newAt _ _ rfl).cell 0) (by omega) ?_)
        intro g cap wC hown1 hgrow hloc
        obtain ⟨k9', f9', hl9'⟩ := hB.push_at hgrow
        have hP := hB.push hown1 hgrow hloc hbB
        clear hgrow hloc hown1 k9 hl9
        go_wp2_with fail
        refine (skip_any bp _ _ _ hP.at_).mono ?_
        rintro e' wD ⟨rfl, hmD, hpD⟩
        go_wp2_with fail
        exact Handed.intro (s.size - en) (by omega) (hJ _ _ _ ⟨en, (fun d => cond (Nat.ble 9 d && Nat.ble d 15) (List.getD [_, _, _, _, _, _, _] (d - 9) undef) (cond (Nat.ble 33 d && Nat.ble d 165) (cond (Nat.ble d 96) (cond (Nat.ble d 64) (cond (Nat.ble d 48) (List.getD [_, _, _, _, _, _, _, _, _, _, _, _, _, _, _, _] (d - 33) undef) (List.getD [_, _, _, _, _, _, _, _, _, _, _, _, _, _, _, _] (d - 49) undef)) (cond (Nat.ble d 80) (List.getD [_, _, _, _, _, _, _, _, _, _, _, _, _, _, _, _] (d - 65) undef) (List.getD [_, _, _, _, _, _, _, _, _, _, _, _, _, _, _, _] (d - 81) undef))) (cond (Nat.ble d 128) (cond (Nat.ble d 112) (List.getD [_, _, _, _, _, _, _, _, _, _, _, _, _, _, _, _] (d - 97) undef) (List.getD [_, _, _, _, _, _, _, _, _, _, _, _, _, _, _, _] (d - 113) undef)) (cond (Nat.ble d 144) (List.getD [_, _, _, _, _, _, _, _, _, _, _, _, _, _, _, _] (d - 129) undef) (cond (Nat.ble d 160) (List.getD [_, _, _, _, _, _, _, _, _, _, _, _, _, _, _, _] (d - 145) undef) (List.getD [_, _, _, _, _] (d - 161) undef))))) (cond (Nat.ble 293 d && Nat.ble d 294) (List.getD [_, _] (d - 293) undef) (v d)))), ⟨rfl, h4, c1, en, n' + 1, _, _, _, r', Nat.le_refl _, by omega, hP.skipped hmD hpD, HP2.out, by rw [← HSC.out, HR.out]; simp⟩, rfl⟩)
    · have w1 : ¬ ((k : Int) < s.size) := by omega
      have HSC := Lib.hid hsc
      have hend : pcs ++ (if e < s.size then [Pc.plain (s.extract e s.size)] else []) = all := by rw [← hsc]; rw [hk] at hpl; rw [plan_end hpl]
      have HEND := Lib.hid hend
      have HK := Lib.hid hk
      clear hsc hk hpl hend
      go_wp2_with fail
      refine (emit_held hh s.size (by have := HK.out; omega) (Nat.le_refl _) (by omega) (by omega)).mono ?_
      rintro e' wB ⟨rfl, n', lv', xs', hn', hmB, hB⟩
      rw [HEND.out] at hB
      have hn0 : 0 < n' := by
        have h1 := hB.pcs.length
        have h2 := hB.row.1
        have h4 : all.length ≠ 0 := fun h => HNE.out (List.length_eq_zero_iff.1 h)
        omega
      have hnk : n' ≤ s.size + 1 := by have := HK.out; omega
      obtain ⟨gl, cap, rfl, _, _, _⟩ := ownsRow_form hB.row hn0
      have hOB : Opt wB p 3 false := hO.keep hB.mods hpb
      have HE : ∀ W, Same wB W → Calls Tryz.prog 117 #[.pointer (some ⟨bp, 0, none⟩), .slice (some ⟨gl, 0, none⟩) 0 cap, .slice (some ⟨gl, 0, none⟩) n' cap] W fun e W' => e = .returned (.slice (some ⟨gl, 0, none⟩) n' cap) ∧ Same wB W' ∧
          W'.cell? ⟨bp, 9, none⟩ = some (.slice (some ⟨gl, 0, none⟩) n' cap) ∧ W'.frozen? ⟨bp, 9, none⟩ = false ∧ bp < W'.heap.size := fun W hW =>
        (emph_id _ gl n' cap xs' _ W (hB.same hW).row (hB.same hW).pcs (by omega)).mono fun e W' ⟨h1, h2⟩ =>
          ⟨h1, hW.trans h2, (hB.same (hW.trans h2)).at_.list, (hB.same (hW.trans h2)).at_.fr 9, (hB.same (hW.trans h2)).at_.lt⟩
      have k9 := hB.at_.list
      have f9 := hB.at_.fr 9
      have hl9 := hB.at_.lt
      have hcap : (0 : Int) ≤ cap := by omega
      have hS0 : Same wB wB := Mods.refl _ _
      go_wp2_with fail
      go_region_with ((go_at_call 117; refine (HE _ (by repeat (first | assumption | apply Mods.drew))).mono ?_; rintro e' wC ⟨rfl, hmC, k9', f9', hl9'⟩))
      all_goals
        have hC := hB.again hmC
        generalize (World.setCell wC _ _ : World) = wD at hC ⊢
        clear k9' f9' hl9' k9 f9 hl9
        have k9 := hC.at_.list
        have f9 := hC.at_.fr 9
        have hl9 := hC.at_.lt
        go_wp2_with fail
        refine (mergePlain_id _ gl n' cap xs' _ wD hC.row hC.pcs HNO.out (by omega)).mono ?_
        rintro e' wE ⟨rfl, hmE⟩
        have hE2 := hC.same hmE
        clear k9 f9 hl9
        have k9 := hE2.at_.list
        have f9 := hE2.at_.fr 9
        have hl9 := hE2.at_.lt
        go_wp2_with fail
        have hF := hC.again hmE
        generalize (World.setCell wE _ _ : World) = wF at hF ⊢
        have hOF : Opt wF p 3 false := hO.keep hF.mods hpb
        refine (autoLinkText_off bp _ _ wF hF.at_ hOF).mono ?_
        rintro e' wG ⟨rfl, rfl⟩
        clear k9 f9 hl9
        have k9 := hF.at_.list
        have f9 := hF.at_.fr 9
        have hl9 := hF.at_.lt
        go_wp2_with fail
        go_ret
        exact ⟨gl, n', cap, xs', rfl, hn0, hnk, c0, hF.again (Mods.refl _ _)⟩
end Go.Proofs.YtmmopoofheblbaaGreatDoor

/- trimSpaceTab of a text that neither begins nor ends with white space. -/
namespace Go.Proofs.YtmmopoofheblbaaGreatDoor
open Go Go.RowKit Go.Proofs

theorem ext_all (s : ByteArray) : s.extract 0 s.size = s := by simp

set_option maxHeartbeats 2000000 in
theorem trimSpaceTab_id (s : ByteArray) (w : World) (hs : s.size ≤ 1000000) (h0 : 0 < s.size) (h1 : isW s[0] = false) (h2 : isW (s[s.size - 1]'(by omega)) = false) :
    Calls Tryz.prog 100 #[.string s] w fun e w' => e = .returned (.string s) ∧ w = w' := by
  obtain ⟨a1, a2⟩ := isW_no h1
  obtain ⟨b1, b2⟩ := isW_no h2
  clear h1 h2
  have w1 : (0 : Int) < s.size := by omega
  have w2 : IntKind.i64.wrap ((s.size : Int) - 1) = (s.size : Int) - 1 := IntWalk.i64_in _ (by omega)
  have w3 : (0 : Int) ≤ (s.size : Int) - 1 := by omega
  have w4 : ((s.size : Int) - 1).toNat = s.size - 1 := by omega
  have w5 : (s.size : Int) - 1 < s.size := by omega
  have he := ext_all s
  go_enter Tryz.func100, Tryz.ntmps100
  go_wp2_with fail
  go_loopg [3] 0 (fun k v wr => v = .int .i64 0 ∧ w = wr)
  case atStart => exact ⟨rfl, rfl⟩
  case round =>
    obtain ⟨rfl, rfl⟩ := hrel
    go_wp2_with fail
    go_loopg [4] 0 (fun k v wr => v = .int .i64 s.size ∧ w = wr)
    case atStart => exact ⟨rfl, rfl⟩
    case round =>
      obtain ⟨rfl, rfl⟩ := hrel
      go_wp2_with fail
      go_ret
      exact ⟨rfl, rfl⟩
end Go.Proofs.YtmmopoofheblbaaGreatDoor

/- The trial for an item of a list, where the line begins none. -/
namespace Go.Proofs.YtmmopoofheblbaaGreatDoor
open Go Go.RowKit Go.Proofs

/-- The byte is no bullet and no digit. -/
def NoItem (c : UInt8) : Prop := ∀ k ∈ [(45 : Int), 42, 43, 48, 49, 50, 51, 52, 53, 54, 55, 56, 57], (c.toNat : Int) ≠ k

def IRel (w wr : World) (bt : Nat) (text : ByteArray) (i k : Nat) (nl : Int) : Prop :=
  k ≤ 3 ∧ lead text i k = k ∧ Same w wr ∧ LineAt wr bt (i + k) text nl

set_option maxRecDepth 100000 in
set_option maxHeartbeats 2000000 in
theorem startListItem_no (b bp : Nat) (text : ByteArray) (i : Nat) (nl : Int) (w : World) (hi : i ≤ text.size) (hT : Txt text) (hL : LineAt w b i text nl)
    (hc : NoItem (at0 text (p3 text i))) :
    Calls Tryz.prog 228 #[.pointer (some ⟨bp, 0, none⟩), .pointer (some ⟨b, 0, none⟩)] w fun e w' => e = .returned (.bool false) ∧ Same w w' := by
  obtain ⟨h0, h1, h2, h3, h4, hf0, hf1, hf2, hf3, hf4, hbl⟩ := hL.facts
  have c1 := bne_of (hc 45 (by decide))
  have c2 := bne_of (hc 42 (by decide))
  have c3 := bne_of (hc 43 (by decide))
  have d0 := bne_of (hc 48 (by decide))
  have d1 := bne_of (hc 49 (by decide))
  have d2 := bne_of (hc 50 (by decide))
  have d3 := bne_of (hc 51 (by decide))
  have d4 := bne_of (hc 52 (by decide))
  have d5 := bne_of (hc 53 (by decide))
  have d6 := bne_of (hc 54 (by decide))
  have d7 := bne_of (hc 55 (by decide))
  have d8 := bne_of (hc 56 (by decide))
  have d9 := bne_of (hc 57 (by decide))
  clear hc
  go_enter Tryz.func228, Tryz.ntmps228
  go_wp2
  go_step3
  go_wp2
  go_loopg [6, 7] 3 (fun g n j wr => ∃ k : Nat, g = 3 - k ∧ n = .int .i64 k ∧ j = .int .i64 k ∧ IRel w wr (w.heap.size + 1) text i k nl)
  case atStart =>
    refine ⟨0, rfl, rfl, rfl, by omega, rfl, ?_, ?_⟩
    · exact ((Mods.refl _ w).alloc _).alloc _
    · exact Blk.newAt _ _ (by simp)
  case round =>
    obtain ⟨k, hg, rfl, rfl, hk3, hlk, hmw, hlw⟩ := hrel
    have HG := Lib.hid hg
    have HK := Lib.hid hlk
    clear hg hlk h0 h1 h2 h3 h4 hf0 hf1 hf2 hf3 hf4 hL
    have hik : i + k ≤ text.size := by have := (lead_le text k i).2 hi; have := HK.out; omega
    by_cases hlt : k < 3
    · go_wp2_with fail
      refine (trimSpace_11 _ text (i + k) false nl wr hik hT hlw).mono ?_
      rintro e w1 (⟨hs, rfl, hm1, hl1⟩ | ⟨hs, rfl, hm1, hl1⟩)
      · have HS := Lib.hid hs
        clear hs
        go_wp2
        go_roundg (3 - (k + 1))
        case measure => have := HG.out; omega
        case rel =>
          exact ⟨k + 1, rfl, by go_num, by go_num, by omega, lead_one HK.out HS.out, hmw.then hm1 (by intro b hb; omega), hl1⟩
      · have e1 : lead text i 3 = k := by
          have := lead_all (m := 3 - k) HK.out hs
          rwa [show k + (3 - k) = 3 by omega] at this
        have hp : i + k = p3 text i := by unfold p3; rw [e1]
        clear e1 hs
        rw [hp] at hl1
        clear hp
        go_wp2_with fail
        refine (peek_any _ _ _ _ _ hT.size hl1).mono ?_
        rintro e w2 ⟨rfl, n, rfl⟩
        go_wp2
        go_step3
        go_wp2
        try rw [Exit.noGoto_ret]
        go_ret
        exact ⟨rfl, (hmw.then hm1 (by intro b hb; omega)).drewN n⟩
    · have hk : k = 3 := by omega
      subst hk
      have hp : i + 3 = p3 text i := by unfold p3; rw [HK.out]
      rw [hp] at hlw
      clear hp
      go_wp2_with fail
      refine (peek_any _ _ _ _ _ hT.size hlw).mono ?_
      rintro e w2 ⟨rfl, n, rfl⟩
      go_wp2
      go_step3
      go_wp2
      try rw [Exit.noGoto_ret]
      go_ret
      exact ⟨rfl, hmw.drewN n⟩
def isDig (c : UInt8) : Prop := 48 ≤ (c.toNat : Int) ∧ (c.toNat : Int) ≤ 57

/-- Behind the digits that begin at place j stands no full stop and no parenthesis. -/
def NumNo (text : ByteArray) (j : Nat) : Prop :=
  ∀ t, (∀ u, u < t → isDig (at0 text (j + u))) → (at0 text (j + t)).toNat ≠ 46 ∧ (at0 text (j + t)).toNat ≠ 41

def DRel (w wr : World) (bt : Nat) (text : ByteArray) (i t : Nat) (nl : Int) : Prop :=
  p3 text i + t ≤ text.size ∧ (∀ u, u < t → isDig (at0 text (p3 text i + u))) ∧ Same w wr ∧ LineAt wr bt (p3 text i) text nl

theorem dig_cases {c : UInt8} (h : isDig c) : (c.toNat : Int) = 48 ∨ (c.toNat : Int) = 49 ∨ (c.toNat : Int) = 50 ∨ (c.toNat : Int) = 51 ∨ (c.toNat : Int) = 52 ∨
    (c.toNat : Int) = 53 ∨ (c.toNat : Int) = 54 ∨ (c.toNat : Int) = 55 ∨ (c.toNat : Int) = 56 ∨ (c.toNat : Int) = 57 := by
  unfold isDig at h
  omega

theorem dig_last {c : UInt8} (h : isDig c) (h0 : ((c.toNat : Int) == 48) = false) (h1 : ((c.toNat : Int) == 49) = false) (h2 : ((c.toNat : Int) == 50) = false)
    (h3 : ((c.toNat : Int) == 51) = false) (h4 : ((c.toNat : Int) == 52) = false) (h5 : ((c.toNat : Int) == 53) = false) (h6 : ((c.toNat : Int) == 54) = false)
    (h7 : ((c.toNat : Int) == 55) = false) (h8 : ((c.toNat : Int) == 56) = false) : Value.bool ((c.toNat : Int) == 57) = .bool true := by
  rw [beq_eq_false_iff_ne] at h0 h1 h2 h3 h4 h5 h6 h7 h8
  unfold isDig at h
  rw [beq_iff_eq.2 (by omega : (c.toNat : Int) = 57)]

set_option maxRecDepth 100000 in
set_option maxHeartbeats 8000000 in
theorem startListItem_num (b bp : Nat) (text : ByteArray) (i : Nat) (nl : Int) (w : World) (hi : i ≤ text.size) (hT : Txt text) (hL : LineAt w b i text nl)
    (hd : isDig (at0 text (p3 text i))) (hN : NumNo text (p3 text i)) :
    Calls Tryz.prog 228 #[.pointer (some ⟨bp, 0, none⟩), .pointer (some ⟨b, 0, none⟩)] w fun e w' => e = .returned (.bool false) ∧ Same w w' := by
  obtain ⟨h0, h1, h2, h3, h4, hf0, hf1, hf2, hf3, hf4, hbl⟩ := hL.facts
  have hp := (p3_le hi).2
  have hs := hT.size
  have HN := Lib.hid hN
  have HD := Lib.hid hd
  clear hN hd
  go_enter Tryz.func228, Tryz.ntmps228
  go_wp2
  go_step3
  go_wp2
  go_loopg [6, 7] 3 (fun g n j wr => ∃ k : Nat, g = 3 - k ∧ n = .int .i64 k ∧ j = .int .i64 k ∧ IRel w wr (w.heap.size + 1) text i k nl)
  case atStart =>
    refine ⟨0, rfl, rfl, rfl, by omega, rfl, ?_, ?_⟩
    · exact ((Mods.refl _ w).alloc _).alloc _
    · exact Blk.newAt _ _ (by simp)
  case round =>
    obtain ⟨k, hg, rfl, rfl, hk3, hlk, hmw, hlw⟩ := hrel
    have HG := Lib.hid hg
    have HK := Lib.hid hlk
    clear hg hlk h0 h1 h2 h3 h4 hf0 hf1 hf2 hf3 hf4 hL
    have hik : i + k ≤ text.size := by have := (lead_le text k i).2 hi; have := HK.out; omega
    by_cases hlt : k < 3
    · go_wp2_with fail
      refine (trimSpace_11 _ text (i + k) false nl wr hik hT hlw).mono ?_
      rintro e w1 (⟨hs, rfl, hm1, hl1⟩ | ⟨hs, rfl, hm1, hl1⟩)
      · have HS := Lib.hid hs
        clear hs
        go_wp2
        go_roundg (3 - (k + 1))
        case measure => have := HG.out; omega
        case rel =>
          exact ⟨k + 1, rfl, by go_num, by go_num, by omega, lead_one HK.out HS.out, hmw.then hm1 (by intro b hb; omega), hl1⟩
      · have e1 : lead text i 3 = k := by
          have := lead_all (m := 3 - k) HK.out hs
          rwa [show k + (3 - k) = 3 by omega] at this
        have hp : i + k = p3 text i := by unfold p3; rw [e1]
        clear e1 hs
        rw [hp] at hl1
        clear hp
        go_wp2_with fail
        refine (peek_any _ _ _ _ _ hT.size hl1).mono ?_
        rintro e w2 ⟨rfl, n, rfl⟩
        have hW : Same w (w1.drewN n) := (hmw.then hm1 (by intro b hb; omega)).drewN n
        have hl2 : LineAt (w1.drewN n) (w.heap.size + 1) (p3 text i) text nl := hl1
        generalize w1.drewN n = w3 at *
        obtain ⟨q0, q1, q2, q3, q4, qf0, qf1, qf2, qf3, qf4, qbl⟩ := LineAt.facts hl2
        clear hl1 hm1 hmw hlw
        have b45 : (((at0 text (p3 text i)).toNat : Int) == 45) = false := beq_eq_false_iff_ne.2 (by have := HD.out; unfold isDig at this; omega)
        have b42 : (((at0 text (p3 text i)).toNat : Int) == 42) = false := beq_eq_false_iff_ne.2 (by have := HD.out; unfold isDig at this; omega)
        have b43 : (((at0 text (p3 text i)).toNat : Int) == 43) = false := beq_eq_false_iff_ne.2 (by have := HD.out; unfold isDig at this; omega)
        generalize hP : p3 text i = P at *
        clear hP
        go_wp2
        go_step3
        go_upto_if 40 with (fail)
        go_cut [40] (fun s40 wx => s40 = .bool true ∧ w3 = wx)
        case first =>
          go_wp2
          all_goals first
            | (go_meet; case rel => exact ⟨rfl, rfl⟩)
            | (go_meet; case rel => exact ⟨by first | exact congrArg Value.bool (by assumption) | exact dig_last HD.out (by assumption) (by assumption) (by assumption) (by assumption) (by assumption) (by assumption) (by assumption) (by assumption) (by assumption), rfl⟩)
        case rest =>
          obtain ⟨rfl, rfl⟩ := hcut
          go_wp2
          go_loopg [9, 10] (text.size - P) (fun g num j wr => ∃ (t : Nat) (z : Int), g = text.size - (P + t) ∧ num = .int .i64 z ∧ j = .int .i64 ((P : Int) + t) ∧ wr = w3 ∧ P + t ≤ text.size ∧ t ≤ 9 ∧ ∀ u, u < t → isDig (at0 text (P + u)))
          case atStart => exact ⟨0, 0, rfl, rfl, by simp, rfl, by omega, by omega, fun u hu => absurd hu (by omega)⟩
          case round =>
            obtain ⟨t, z, hg2, rfl, rfl, rfl, ht1, ht2, hdg⟩ := hrel
            have HG2 := Lib.hid hg2
            have HDG := Lib.hid hdg
            have hno := HN.out t hdg
            clear hg2 hdg
            by_cases hlt2 : P + t < text.size
            · have hat : at0 text (P + t) = text[P + t] := at0_eq hlt2
              rw [hat] at hno
              have e46 : (((text[P + t]).toNat : Int) == 46) = false := beq_eq_false_iff_ne.2 (by omega)
              have e41 : (((text[P + t]).toNat : Int) == 41) = false := beq_eq_false_iff_ne.2 (by omega)
              have HAT := Lib.hid hat
              clear hat hno
              by_cases hlo : ((text[P + t]).toNat : Int) < 48
              · go_wp2
                try rw [Exit.noGoto_ret]
                go_ret
                exact ⟨rfl, hW⟩
              · by_cases hhi : 57 < ((text[P + t]).toNat : Int)
                · go_wp2
                  try rw [Exit.noGoto_ret]
                  go_ret
                  exact ⟨rfl, hW⟩
                · by_cases h9 : t < 9
                  · go_wp2
                    go_roundg (text.size - (P + (t + 1)))
                    case measure => have := HG2.out; omega
                    case rel =>
                      refine ⟨t + 1, _, rfl, rfl, by go_num, rfl, by omega, by omega, fun u hu => ?_⟩
                      rcases Nat.lt_or_ge u t with h | h
                      · exact HDG.out u h
                      · have : u = t := by omega
                        subst this
                        rw [HAT.out]
                        unfold isDig
                        omega
                  · have h99 : t = 9 := by omega
                    subst h99
                    go_wp2
                    try rw [Exit.noGoto_ret]
                    go_ret
                    exact ⟨rfl, hW⟩
            · go_wp2
              try rw [Exit.noGoto_ret]
              go_ret
              exact ⟨rfl, hW⟩
    · have hk : k = 3 := by omega
      subst hk
      have hp3 : i + 3 = p3 text i := by unfold p3; rw [HK.out]
      rw [hp3] at hlw
      clear hp3
      go_wp2_with fail
      refine (peek_any _ _ _ _ _ hT.size hlw).mono ?_
      rintro e w2 ⟨rfl, n, rfl⟩
      have hW : Same w (wr.drewN n) := hmw.drewN n
      have hl2 : LineAt (wr.drewN n) (w.heap.size + 1) (p3 text i) text nl := hlw
      generalize wr.drewN n = w3 at *
      obtain ⟨q0, q1, q2, q3, q4, qf0, qf1, qf2, qf3, qf4, qbl⟩ := LineAt.facts hl2
      clear hmw hlw
      have b45 : (((at0 text (p3 text i)).toNat : Int) == 45) = false := beq_eq_false_iff_ne.2 (by have := HD.out; unfold isDig at this; omega)
      have b42 : (((at0 text (p3 text i)).toNat : Int) == 42) = false := beq_eq_false_iff_ne.2 (by have := HD.out; unfold isDig at this; omega)
      have b43 : (((at0 text (p3 text i)).toNat : Int) == 43) = false := beq_eq_false_iff_ne.2 (by have := HD.out; unfold isDig at this; omega)
      generalize hP : p3 text i = P at *
      clear hP
      go_wp2
      go_step3
      go_upto_if 40 with (fail)
      go_cut [40] (fun s40 wx => s40 = .bool true ∧ w3 = wx)
      case first =>
        go_wp2
        all_goals first
          | (go_meet; case rel => exact ⟨rfl, rfl⟩)
          | (go_meet; case rel => exact ⟨by first | exact congrArg Value.bool (by assumption) | exact dig_last HD.out (by assumption) (by assumption) (by assumption) (by assumption) (by assumption) (by assumption) (by assumption) (by assumption) (by assumption), rfl⟩)
      case rest =>
        obtain ⟨rfl, rfl⟩ := hcut
        go_wp2
        go_loopg [9, 10] (text.size - P) (fun g num j wr => ∃ (t : Nat) (z : Int), g = text.size - (P + t) ∧ num = .int .i64 z ∧ j = .int .i64 ((P : Int) + t) ∧ wr = w3 ∧ P + t ≤ text.size ∧ t ≤ 9 ∧ ∀ u, u < t → isDig (at0 text (P + u)))
        case atStart => exact ⟨0, 0, rfl, rfl, by simp, rfl, by omega, by omega, fun u hu => absurd hu (by omega)⟩
        case round =>
          obtain ⟨t, z, hg2, rfl, rfl, rfl, ht1, ht2, hdg⟩ := hrel
          have HG2 := Lib.hid hg2
          have HDG := Lib.hid hdg
          have hno := HN.out t hdg
          clear hg2 hdg
          by_cases hlt2 : P + t < text.size
          · have hat : at0 text (P + t) = text[P + t] := at0_eq hlt2
            rw [hat] at hno
            have e46 : (((text[P + t]).toNat : Int) == 46) = false := beq_eq_false_iff_ne.2 (by omega)
            have e41 : (((text[P + t]).toNat : Int) == 41) = false := beq_eq_false_iff_ne.2 (by omega)
            have HAT := Lib.hid hat
            clear hat hno
            by_cases hlo : ((text[P + t]).toNat : Int) < 48
            · go_wp2
              try rw [Exit.noGoto_ret]
              go_ret
              exact ⟨rfl, hW⟩
            · by_cases hhi : 57 < ((text[P + t]).toNat : Int)
              · go_wp2
                try rw [Exit.noGoto_ret]
                go_ret
                exact ⟨rfl, hW⟩
              · by_cases h9 : t < 9
                · go_wp2
                  go_roundg (text.size - (P + (t + 1)))
                  case measure => have := HG2.out; omega
                  case rel =>
                    refine ⟨t + 1, _, rfl, rfl, by go_num, rfl, by omega, by omega, fun u hu => ?_⟩
                    rcases Nat.lt_or_ge u t with h | h
                    · exact HDG.out u h
                    · have : u = t := by omega
                      subst this
                      rw [HAT.out]
                      unfold isDig
                      omega
                · have h99 : t = 9 := by omega
                  subst h99
                  go_wp2
                  try rw [Exit.noGoto_ret]
                  go_ret
                  exact ⟨rfl, hW⟩
          · go_wp2
            try rw [Exit.noGoto_ret]
            go_ret
            exact ⟨rfl, hW⟩
end Go.Proofs.YtmmopoofheblbaaGreatDoor

/- addLine where the document alone is open and the line begins a paragraph. -/
namespace Go.Proofs.YtmmopoofheblbaaGreatDoor
open Go Go.RowKit Go.Proofs

/-- The line begins no item of a list. -/
def ItemNo (text : ByteArray) (i : Nat) : Prop := NoItem (at0 text (p3 text i)) ∨ (isDig (at0 text (p3 text i)) ∧ NumNo text (p3 text i))

theorem startListItem_none (b bp : Nat) (text : ByteArray) (i : Nat) (nl : Int) (w : World) (hi : i ≤ text.size) (hT : Txt text) (hL : LineAt w b i text nl) (hc : ItemNo text i) :
    Calls Tryz.prog 228 #[.pointer (some ⟨bp, 0, none⟩), .pointer (some ⟨b, 0, none⟩)] w fun e w' => e = .returned (.bool false) ∧ Same w w' := by
  rcases hc with h | ⟨h1, h2⟩
  · exact startListItem_no b bp text i nl w hi hT hL h
  · exact startListItem_num b bp text i nl w hi hT hL h1 h2

theorem as_list_no (T X : Nat) (v : Value) (w : World) (h : T ≠ 335) :
    (Instr.typeAssert (.iface T v) X 335 true).run Tryz.prog w = .ok (.tuple #[.pointer none, .bool false]) w :=
  as_ptr_no T _ 340 (by kernel_rfl) (fun _ => by kernel_rfl) X v w h

set_option maxRecDepth 100000 in
set_option maxHeartbeats 2000000 in
theorem newListItem_no (bp g n cap : Nat) (_a : Option Addr) (p : PSt) (T d : Nat) (v : Value) (text : ByteArray) (i : Nat) (nl : Int) (w : World) (hp : PsAt w bp p) (hst : p.stack = .slice (some ⟨g, 0, none⟩) n cap) (hd : p.depth = d) (hn : d < n) (hn2 : d ≤ 1000000)
    (hb : w.cell? ⟨g, d * 4, none⟩ = some (.iface T v)) (hT4 : T ≠ 335) (hi : i ≤ text.size) (hT : Txt text) (hc : ItemNo text i) :
    Calls Tryz.prog 168 #[.pointer (some ⟨bp, 0, none⟩), LV i text nl] w fun e w' => e = .returned (.tuple #[LV i text nl, .bool false]) ∧ Same w w' := by
  have hA := fun w => as_list_no T 237 v w hT4
  go_enter Tryz.func168, Tryz.ntmps168
  go_wp2_with fail
  generalize hW : ((w.alloc _).alloc _ : World) = W
  have hm0 : Same w W := by subst hW; exact ((Mods.refl _ w).alloc _).alloc _
  have hbk : LineAt W w.heap.size i text nl := by subst hW; exact (Blk.newAt _ _ rfl).alloc _
  have hr : LineAt W (w.heap.size + 1) 0 ⟨#[]⟩ 0 := by subst hW; exact Blk.newAt _ _ (by simp)
  clear hW
  have hb1 : W.cell? ⟨g, d * 4, none⟩ = some (.iface T v) := (World.cell?_of_block (hm0.block g (World.block_lt_of_cell? _ _ hb) (fun x => x))).trans hb
  refine (curB_some bp g n cap p W (hp.same hm0) hst d hd hn hn2 _ hb1).mono ?_
  rintro e w1 ⟨rfl, n1, rfl⟩
  have hm1 : Same W (W.drewN n1) := (Mods.refl _ W).drewN _
  generalize W.drewN n1 = W1 at *
  have hbk1 := Same.blk hm1 hbk
  have hr1 := Same.blk hm1 hr
  have hk := hm0.trans hm1
  clear hbk hr hm0 hm1 hb1 hd hst hp hb
  go_wp2_with fail
  refine (startListItem_none _ bp text i nl W1 hi hT hbk1 hc).mono ?_
  rintro e w2 ⟨rfl, hm2⟩
  have hbk2 := Same.blk hm2 hbk1
  have hr2 := Same.blk hm2 hr1
  have hk2 := hk.trans hm2
  obtain ⟨g0, g1, g2, g3, g4, gf0, gf1, gf2, gf3, gf4, gbl⟩ := LineAt.facts hbk2
  obtain ⟨r0, r1, r2, r3, r4, rf0, rf1, rf2, rf3, rf4, rbl⟩ := LineAt.facts hr2
  clear hbk1 hr1 hbk2 hc hk hm2
  go_wp2
  exact bodyPost_ret (v := .tuple #[LV i text nl, .bool false]) (by simp [results, Tryz.results168, go_sem, r0, r1, r2, r3, r4]) rfl ⟨rfl, by
    exact hk2.then ((put5 hr2 i text nl).1) (by intro b hb; omega)⟩
theorem news_any (w : World) : Calls Tryz.prog 121 #[] w fun e w' => ∃ b, e = .returned (.slice (some ⟨b, 0, none⟩) 8 8) ∧ Same w w' ∧
    Blk w' b #[.func (.func 164) #[] #[], .func (.func 165) #[] #[], .func (.func 166) #[] #[], .func (.func 167) #[] #[],
      .func (.func 168) #[] #[], .func (.func 169) #[] #[], .func (.func 170) #[] #[], .func (.func 171) #[] #[]] 242 := by
  go_enter Tryz.func121, Tryz.ntmps121
  go_wp2
  go_ret
  exact ⟨w.heap.size, rfl, (Mods.refl _ w).alloc _, Blk.newAt _ _ rfl⟩

/-- None of the eight functions begins a block with this line. -/
def TriesNo (w : World) (bp i : Nat) (text : ByteArray) (nl : Int) : Prop :=
  ∀ f ∈ [164, 165, 166, 167, 168, 169, 170, 171], ∀ W, Same w W →
    Calls Tryz.prog f #[.pointer (some ⟨bp, 0, none⟩), LV i text nl] W fun e w' => e = .returned (.tuple #[LV i text nl, .bool false]) ∧ Same W w'

/-- A line that begins with none of the signs of blocks. -/
structure Plain (text : ByteArray) (i : Nat) : Prop where
  c62 : ((at0 text (p3 text i)).toNat : Int) ≠ 62
  c35 : ((at0 text (p3 text i)).toNat : Int) ≠ 35
  c45 : ((at0 text (p3 text i)).toNat : Int) ≠ 45
  c95 : ((at0 text (p3 text i)).toNat : Int) ≠ 95
  c42 : ((at0 text (p3 text i)).toNat : Int) ≠ 42
  c60 : ((at0 text (p3 text i)).toNat : Int) ≠ 60
  c96 : ((at0 text (p3 text i)).toNat : Int) ≠ 96
  c126 : ((at0 text (p3 text i)).toNat : Int) ≠ 126
  c32 : at0 text (p3 text i) ≠ 32
  item : ItemNo text i

theorem triesNo_first (bp g n cap : Nat) (p : PSt) (T : Nat) (v : Value) (text : ByteArray) (i : Nat) (nl : Int) (w : World) (h : NoPara w bp g n cap p T v) (hd : p.depth = n)
    (hT4 : T ≠ 335) (hi : i ≤ text.size) (hT : Txt text) (hP : Plain text i) : TriesNo w bp i text nl := by
  intro f hf W hW
  have h1 := h.same hW
  simp only [List.mem_cons, List.not_mem_nil, or_false] at hf
  rcases hf with rfl | rfl | rfl | rfl | rfl | rfl | rfl | rfl
  · exact newQuote_no _ text i nl W hi hT hP.c62
  · exact newATX_no _ text i nl W hi hT hP.c35
  · exact newSetext_first bp g n cap p T v text i nl W h1 hd
  · exact newHR_no _ text i nl W hi hT hP.c45 hP.c95 hP.c42
  · exact newListItem_no bp g (n + 1) cap none p T n v text i nl W h1.at_ h1.stack hd (by omega) h1.small h1.top hT4 hi hT hP.item
  · exact newHTML_no _ text i nl W hi hT hP.c60
  · exact newFence_no _ text i nl W hi hT hP.c96 hP.c126
  · exact newPre_first bp g n cap p T v text i nl W hi hT h1 hP.c32

def blankAt (text : ByteArray) (i : Nat) : Bool := (trimL (text.extract i text.size)).toList.isEmpty

set_option maxRecDepth 100000 in
set_option maxHeartbeats 4000000 in
theorem addLine_first (bp g cap : Nat) (p : PSt) (T : Nat) (v : Value) (l : List Value) (text : ByteArray) (nl : Int) (w : World) (h : NoPara w bp g 0 cap p T v)
    (hs : text.size ≤ 1000000) (hbl : blankAt text 0 = false) (hO : Opt w p 5 false) (hown : w.ownsRow 0 239 4 p.stack 1 l) (hp51 : p.parser ≠ bp)
    (hN : ∀ W, NoPara W bp g 0 cap { p with depth := 0 } T v → TriesNo W bp 0 text nl) :
    Calls Tryz.prog 89 #[.pointer (some ⟨bp, 0, none⟩), LV 0 text nl] w fun e w' => e = .returned (.tuple #[]) ∧ ParaNew w w' bp { p with depth := 0 } 0 l (trimL (text.extract 0 text.size)) := by
  have k5 := h.at_.depth
  have f5 := h.at_.fr 5
  have hbpl := h.at_.lt
  go_enter Tryz.func89, Tryz.ntmps89
  go_wp2
  go_step3
  go_wp2
  generalize hW : (World.alloc _ _ : World) = W
  have hp0 : PsAt W bp { p with depth := 0 } := by subst hW; exact PsAt.alloc (h.at_.set 5 _ { p with depth := 0 } rfl (by decide)) _
  have hm0 : Mods (fun k => k = bp) w W := by subst hW; exact ((Mods.refl (fun k => k = bp) w).setCell (p := ⟨bp, 5, none⟩) (fun _ => rfl) _).alloc _
  have hbk : LineAt W w.heap.size 0 text nl := by subst hW; exact Blk.newAt _ _ (by simp)
  clear hW
  obtain ⟨tail, htl⟩ := id h.at_
  obtain ⟨_, _, he, ⟨cur, hcur⟩, _, _⟩ := ownsRow_form (h.stack ▸ hown) (by omega)
  cases he
  have hgbp : g ≠ bp := hcur.ne_of_type htl (by decide)
  have h0 : NoPara W bp g 0 cap { p with depth := 0 } T v := ⟨hp0, h.stack, h.small, (World.cell?_of_block (hm0.block g (World.block_lt_of_cell? _ _ h.top) hgbp)).trans h.top, h.other⟩
  have hown0 : W.ownsRow 0 239 4 p.stack 1 l := ownsRow_keep hown hm0 (by rw [h.stack]; intro k hk; cases hk; exact hgbp)
  have hO0 : Opt W p 5 false := hO.keep hm0 hp51
  have hTN := hN W h0
  have k4 : W.cell? ⟨bp, 4, none⟩ = some (.slice (some ⟨g, 0, none⟩) 1 cap) := by have := hp0.stack; rw [h.stack] at this; exact this
  have k5' := hp0.depth
  clear k5 f5 hbpl hcur htl
  go_loopg [] 0 (fun g wr => W = wr)
  case atStart => rfl
  case round =>
    subst hrel
    go_wp2_with fail
    go_quiet (fail)
    generalize hX : (W.drewN _ : World) = W1
    have hm1 : Same W W1 := by subst hX; exact (Mods.refl _ W).drewN _
    clear hX k4 k5'
    have hbk1 := Same.blk hm1 hbk
    go_wp2_with fail
    refine (isBlank_any _ _ _ _ _ hs (by omega) hbk1).mono ?_
    rintro e w2 ⟨rfl, n2, rfl⟩
    rw [show (trimL (text.extract 0 text.size)).toList.isEmpty = false from hbl]
    have hm2 : Same W (W1.drewN n2) := hm1.drewN _
    generalize W1.drewN n2 = W2 at *
    have hbk2 := Same.blk hm2 hbk
    clear hm1 hbk1 hbl
    go_wp2_with fail
    go_step3
    go_wp2_with fail
    refine (news_any _).mono ?_
    rintro e w3 ⟨nb, rfl, hm3, hnb⟩
    have hm4 := hm2.trans hm3
    have hbk3 := Same.blk hm3 hbk2
    clear hm2 hbk2
    go_wp2
    go_loopg [88] 8 (fun gg j wr => ∃ k : Nat, gg = 8 - k ∧ j = .int .i64 k ∧ k ≤ 8 ∧ Same w3 wr)
    case atStart => exact ⟨0, rfl, rfl, by omega, Mods.refl _ _⟩
    case round =>
      obtain ⟨k, hg, rfl, hk8, hr5⟩ := hrel
      have hm5 := hm4.trans hr5
      have hbk5 := Same.blk hr5 hbk3
      have hnb5 := Same.blk hr5 hnb
      obtain ⟨g0, g1, g2, g3, g4, gf0, gf1, gf2, gf3, gf4, gbl⟩ := LineAt.facts hbk5
      have hcases : k = 0 ∨ k = 1 ∨ k = 2 ∨ k = 3 ∨ k = 4 ∨ k = 5 ∨ k = 6 ∨ k = 7 ∨ k = 8 := by omega
      rcases hcases with rfl | rfl | rfl | rfl | rfl | rfl | rfl | rfl | rfl
      · have n0 : wr.cell? ⟨nb, 0, none⟩ = some (.func (.func 164) #[] #[]) := hnb5.cell 0
        go_wp2_with fail
        refine (hTN 164 (by simp) wr hm5).mono ?_
        rintro e w6 ⟨rfl, hm6⟩
        clear n0 g0 g1 g2 g3 g4 gf0 gf1 gf2 gf3 gf4 gbl
        go_wp2
        go_roundg 7
        case measure => omega
        case rel => exact ⟨1, rfl, rfl, by omega, (hr5.trans hm6).alloc _⟩
      · have n0 : wr.cell? ⟨nb, 1, none⟩ = some (.func (.func 165) #[] #[]) := hnb5.cell 1
        go_wp2_with fail
        refine (hTN 165 (by simp) wr hm5).mono ?_
        rintro e w6 ⟨rfl, hm6⟩
        clear n0 g0 g1 g2 g3 g4 gf0 gf1 gf2 gf3 gf4 gbl
        go_wp2
        go_roundg 6
        case measure => omega
        case rel => exact ⟨2, rfl, rfl, by omega, (hr5.trans hm6).alloc _⟩
      · have n0 : wr.cell? ⟨nb, 2, none⟩ = some (.func (.func 166) #[] #[]) := hnb5.cell 2
        go_wp2_with fail
        refine (hTN 166 (by simp) wr hm5).mono ?_
        rintro e w6 ⟨rfl, hm6⟩
        clear n0 g0 g1 g2 g3 g4 gf0 gf1 gf2 gf3 gf4 gbl
        go_wp2
        go_roundg 5
        case measure => omega
        case rel => exact ⟨3, rfl, rfl, by omega, (hr5.trans hm6).alloc _⟩
      · have n0 : wr.cell? ⟨nb, 3, none⟩ = some (.func (.func 167) #[] #[]) := hnb5.cell 3
        go_wp2_with fail
        refine (hTN 167 (by simp) wr hm5).mono ?_
        rintro e w6 ⟨rfl, hm6⟩
        clear n0 g0 g1 g2 g3 g4 gf0 gf1 gf2 gf3 gf4 gbl
        go_wp2
        go_roundg 4
        case measure => omega
        case rel => exact ⟨4, rfl, rfl, by omega, (hr5.trans hm6).alloc _⟩
      · have n0 : wr.cell? ⟨nb, 4, none⟩ = some (.func (.func 168) #[] #[]) := hnb5.cell 4
        go_wp2_with fail
        refine (hTN 168 (by simp) wr hm5).mono ?_
        rintro e w6 ⟨rfl, hm6⟩
        clear n0 g0 g1 g2 g3 g4 gf0 gf1 gf2 gf3 gf4 gbl
        go_wp2
        go_roundg 3
        case measure => omega
        case rel => exact ⟨5, rfl, rfl, by omega, (hr5.trans hm6).alloc _⟩
      · have n0 : wr.cell? ⟨nb, 5, none⟩ = some (.func (.func 169) #[] #[]) := hnb5.cell 5
        go_wp2_with fail
        refine (hTN 169 (by simp) wr hm5).mono ?_
        rintro e w6 ⟨rfl, hm6⟩
        clear n0 g0 g1 g2 g3 g4 gf0 gf1 gf2 gf3 gf4 gbl
        go_wp2
        go_roundg 2
        case measure => omega
        case rel => exact ⟨6, rfl, rfl, by omega, (hr5.trans hm6).alloc _⟩
      · have n0 : wr.cell? ⟨nb, 6, none⟩ = some (.func (.func 170) #[] #[]) := hnb5.cell 6
        go_wp2_with fail
        refine (hTN 170 (by simp) wr hm5).mono ?_
        rintro e w6 ⟨rfl, hm6⟩
        clear n0 g0 g1 g2 g3 g4 gf0 gf1 gf2 gf3 gf4 gbl
        go_wp2
        go_roundg 1
        case measure => omega
        case rel => exact ⟨7, rfl, rfl, by omega, (hr5.trans hm6).alloc _⟩
      · have n0 : wr.cell? ⟨nb, 7, none⟩ = some (.func (.func 171) #[] #[]) := hnb5.cell 7
        go_wp2_with fail
        refine (hTN 171 (by simp) wr hm5).mono ?_
        rintro e w6 ⟨rfl, hm6⟩
        clear n0 g0 g1 g2 g3 g4 gf0 gf1 gf2 gf3 gf4 gbl
        go_wp2
        go_roundg 0
        case measure => omega
        case rel => exact ⟨8, rfl, rfl, by omega, (hr5.trans hm6).alloc _⟩
      · have h5 := h0.same hm5
        have hown5 := ownsRow_keep hown0 hm5 (fun _ _ x => x)
        have hO5 := hO0.keep hm5 (fun x => x)
        go_wp2_with fail
        refine (newPara_first bp g 0 cap { p with depth := 0 } T v l text 0 nl wr h5 rfl (by omega) (by omega) hs hO5 hown5).mono ?_
        rintro e w6 ⟨rfl, hpn⟩
        go_wp2
        try rw [Exit.noGoto_normal]
        go_end0
        refine ⟨rfl, ?_, ?_⟩
        · exact ((hm0.mono (fun _ _ h => Or.inl h)).then (hm5.trans (Mods.refl _ _)) (fun _ _ h => absurd h (fun x => x))).then hpn.mods (fun _ _ h => h)
        · obtain ⟨g6, cap6, bb, tv, x1, x2, x3, x4, x5, x6, x7⟩ := hpn.ex
          exact ⟨g6, cap6, bb, tv, x1, x2, x3, x4, by have := hm0.size; have := hm5.size; omega, fun hlt => x6 (by have := hm0.size; have := hm5.size; omega), fun k hk => by have := x7 k hk; have := hm0.size; have := hm5.size; omega⟩
end Go.Proofs.YtmmopoofheblbaaGreatDoor

/- Seven signs # are no heading. -/
namespace Go.Proofs.YtmmopoofheblbaaGreatDoor
open Go Go.RowKit Go.Proofs

/-- Seven # stand at place i. -/
def Seven (text : ByteArray) (i : Nat) : Prop := ∀ u, u < 7 → at0 text (i + u) = 35

theorem at0_lt {text : ByteArray} {i : Nat} {c : UInt8} (h : at0 text i = c) (hc : c ≠ 0) : ∃ hi : i < text.size, text[i] = c := by
  unfold at0 at h
  split at h
  · rename_i hi; exact ⟨hi, h⟩
  · exact absurd h.symm hc

set_option maxHeartbeats 4000000 in
theorem trimHeading_seven (b : Nat) (q : Value) (text : ByteArray) (i : Nat) (nl : Int) (w : World) (hi : i ≤ text.size) (hT : Txt text) (hL : LineAt w b i text nl)
    (h7 : Seven text (p3 text i)) :
    Calls Tryz.prog 214 #[.pointer (some ⟨b, 0, none⟩), q] w fun e w' => e = .returned (.bool false) ∧ Same w w' := by
  have hp := (p3_le hi).2
  obtain ⟨h0, h1, h2, h3, h4, hf0, hf1, hf2, hf3, hf4, hbl⟩ := hL.facts
  have H7 := Lib.hid (fun u (hu : u < 7) => at0_lt (h7 u hu) (by decide))
  clear h7
  go_enter Tryz.func214, Tryz.ntmps214
  go_wp2_with fail
  generalize hW : (w.alloc _ : World) = W
  have hm0 : Same w W := by subst hW; exact (Mods.refl _ w).alloc _
  have hl : LineAt W (w.heap.size) i text nl := by subst hW; exact Blk.newAt _ _ rfl
  clear hW h0 h1 h2 h3 h4 hf0 hf1 hf2 hf3 hf4 hbl hL
  refine (trimSpace_03 _ text i nl W hi hT hl).mono ?_
  rintro e w1 ⟨rfl, hm1, hl1⟩
  have hk : Same w w1 := hm0.then hm1 (by intro b hb; omega)
  clear hl hm0 hm1
  go_wp2_with fail
  obtain ⟨q0, q1⟩ := H7.out 0 (by omega)
  refine (trim_yes _ _ text 35 nl w1 hT.size hl1 q0 (by have : text[p3 text i] = 35 := q1; rw [this]; rfl)).mono ?_
  rintro e w2 ⟨rfl, hm2, hl2⟩
  have hk2 : Same w w2 := hk.then hm2 (by intro b hb; omega)
  clear hl1 hm2 hk q1
  generalize hP : p3 text i = P at *
  clear hP
  go_wp2_with fail
  go_loopg [6] 5 (fun g n wr => ∃ k : Nat, g = 6 - k ∧ n = .int .i64 k ∧ 1 ≤ k ∧ k ≤ 6 ∧ Same w wr ∧ LineAt wr w.heap.size (P + k) text nl)
  case atStart => exact ⟨1, rfl, rfl, by omega, by omega, hk2, hl2⟩
  case round =>
    clear hk2 hl2
    obtain ⟨k, hg, rfl, hk1, hk6, hmw, hlw⟩ := hrel
    have HG := Lib.hid hg
    clear hg
    by_cases hlt : k < 6
    · have v1 : (k : Int) < 6 := by omega
      have v3 : IntKind.i64.wrap ((k : Int) + 1) = (k : Int) + 1 := IntWalk.i64_in _ (by omega)
      obtain ⟨r0, r1⟩ := H7.out k (by omega)
      have HR := Lib.hid r1
      clear r1
      go_wp2_with fail
      refine (trim_yes _ _ text 35 nl wr hT.size hlw r0 (by rw [HR.out]; rfl)).mono ?_
      rintro e w3 ⟨rfl, hm3, hl3⟩
      go_wp2_with fail
      go_roundg (6 - (k + 1))
      case measure => have := HG.out; omega
      case rel => exact ⟨k + 1, rfl, rfl, by omega, by omega, hmw.then hm3 (by intro b hb; omega), hl3⟩
    · have v1 : ¬ (k : Int) < 6 := by omega
      have hk : k = 6 := by omega
      obtain ⟨r0, r1⟩ := H7.out 6 (by omega)
      have hr : at0 text (P + 6) ≠ 32 := by rw [at0_eq r0, r1]; decide
      have hno : ¬ text.size ≤ P + 6 := by omega
      have HR := Lib.hid hr
      clear r1 hr
      subst hk
      go_wp2_with fail
      refine (trimSpace_11 _ text (P + 6) true nl wr (by omega) hT hlw).mono ?_
      rintro e w3 (⟨hs, rfl, hm3, hl3⟩ | ⟨hs, rfl, hm3, hl3⟩)
      · exact absurd hs HR.out
      · have hd : (true && decide (text.size ≤ P + 6)) = false := by simp; omega
        rw [hd]
        clear hs hd
        go_wp2
        go_ret
        exact ⟨rfl, hmw.then hm3 (by intro b hb; omega)⟩

set_option maxHeartbeats 1000000 in
theorem newATX_seven (p : Value) (text : ByteArray) (i : Nat) (nl : Int) (w : World) (hi : i ≤ text.size) (hT : Txt text) (h7 : Seven text (p3 text i)) :
    Calls Tryz.prog 165 #[p, LV i text nl] w fun e w' => e = .returned (.tuple #[LV i text nl, .bool false]) ∧ Same w w' := by
  go_enter Tryz.func165, Tryz.ntmps165
  go_wp2_with fail
  generalize hW : ((((w.alloc _).alloc _).alloc _).alloc _ : World) = W
  have hm0 : Same w W := by subst hW; exact ((((Mods.refl _ w).alloc _).alloc _).alloc _).alloc _
  have hb : LineAt W w.heap.size i text nl := by subst hW; exact (((Blk.newAt _ _ rfl).alloc _).alloc _).alloc _
  have hr : LineAt W (w.heap.size + 1) 0 ⟨#[]⟩ 0 := by subst hW; exact ((Blk.newAt _ _ (by simp)).alloc _).alloc _
  have hl : LineAt W (w.heap.size + 1 + 1) i text nl := by subst hW; exact (Blk.newAt _ _ (by simp)).alloc _
  clear hW
  refine (trimHeading_seven _ _ text i nl W hi hT hl h7).mono ?_
  rintro e w1 ⟨rfl, hm1⟩
  have hk : Same w w1 := hm0.trans hm1
  have hb1 := Same.blk hm1 hb
  have hr1 := Same.blk hm1 hr
  obtain ⟨g0, g1, g2, g3, g4, gf0, gf1, gf2, gf3, gf4, gbl⟩ := LineAt.facts hb1
  obtain ⟨r0, r1, r2, r3, r4, rf0, rf1, rf2, rf3, rf4, rbl⟩ := LineAt.facts hr1
  clear hb hr hb1 hm1 hm0 h7 hl
  go_wp2
  exact bodyPost_ret (v := .tuple #[LV i text nl, .bool false]) (by simp [results, Tryz.results165, go_sem, r0, r1, r2, r3, r4]) rfl ⟨rfl, by
    exact hk.then ((put5 hr1 i text nl).1) (by intro b hb; omega)⟩

/-- The line begins a paragraph: no sign of a block, or seven # and more. -/
def Begins (text : ByteArray) (i : Nat) : Prop := Plain text i ∨ Seven text (p3 text i)

theorem triesNo_begins (bp g n cap : Nat) (p : PSt) (T : Nat) (v : Value) (text : ByteArray) (i : Nat) (nl : Int) (w : World) (h : NoPara w bp g n cap p T v) (hd : p.depth = n)
    (hT4 : T ≠ 335) (hi : i ≤ text.size) (hT : Txt text) (hP : Begins text i) : TriesNo w bp i text nl := by
  rcases hP with hP | h7
  · exact triesNo_first bp g n cap p T v text i nl w h hd hT4 hi hT hP
  · intro f hf W hW
    have h1 := h.same hW
    have h35 : at0 text (p3 text i) = 35 := h7 0 (by omega)
    have hc : ∀ k : Int, k ≠ 35 → ((at0 text (p3 text i)).toNat : Int) ≠ k := by
      intro k hk e; rw [h35] at e; exact hk e.symm
    have h32 : at0 text (p3 text i) ≠ 32 := by rw [h35]; decide
    have hno : ItemNo text i := by
      left
      intro k hk
      refine hc k ?_
      rintro rfl
      revert hk
      decide
    simp only [List.mem_cons, List.not_mem_nil, or_false] at hf
    rcases hf with rfl | rfl | rfl | rfl | rfl | rfl | rfl | rfl
    · exact newQuote_no _ text i nl W hi hT (hc _ (by decide))
    · exact newATX_seven _ text i nl W hi hT h7
    · exact newSetext_first bp g n cap p T v text i nl W h1 hd
    · exact newHR_no _ text i nl W hi hT (hc _ (by decide)) (hc _ (by decide)) (hc _ (by decide))
    · exact newListItem_no bp g (n + 1) cap none p T n v text i nl W h1.at_ h1.stack hd (by omega) h1.small h1.top hT4 hi hT hno
    · exact newHTML_no _ text i nl W hi hT (hc _ (by decide))
    · exact newFence_no _ text i nl W hi hT (hc _ (by decide)) (hc _ (by decide))
    · exact newPre_first bp g n cap p T v text i nl W hi hT h1 h32
end Go.Proofs.YtmmopoofheblbaaGreatDoor
