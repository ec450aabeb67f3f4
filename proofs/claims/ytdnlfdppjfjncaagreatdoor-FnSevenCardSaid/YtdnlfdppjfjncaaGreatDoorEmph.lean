/- emph changes nothing in a list without marks of emphasis. -/
import Derived.Test.YtdnlfdppjfjncaaGreatDoorMerge2
import Derived.Deep.LoopGhost
namespace Go.Proofs.YtdnlfdppjfjncaaGreatDoor
open Go Go.RowKit Go.Proofs

theorem emph_facts {wr w1 wB : World} {b T : Nat} {v : Value} (h1 : Same wr w1) (h2 : Same w1 wB) (hD : Blk wr b #[v] T) :
    Same wr wB ∧ Blk wB b #[v] T ∧ wB.cell? ⟨b, 0, none⟩ = some v ∧ wB.frozen? ⟨b, 0, none⟩ = false ∧ b < wB.heap.size := by
  have h := h1.trans h2
  have hB := Same.blk h hD
  exact ⟨h, hB, hB.cell 0, hB.fr 0, hB.lt⟩

theorem emph_end {w wr wB : World} {b : Nat} {v : Value} (h1 : Same w wr) (h2 : Same wr wB) (hb : w.heap.size ≤ b) : Same w (wB.setCell ⟨b, 0, none⟩ v) :=
  (h1.trans h2).setCell (p := ⟨b, 0, none⟩) (fun h => absurd h (Nat.not_lt.2 hb)) v

set_option maxRecDepth 100000 in
set_option maxHeartbeats 8000000 in
theorem emph_id (q : Value) (g n cap : Nat) (xs : List Value) (ps : List Pc) (w : World) (hown : w.ownsRow 0 132 1 (.slice (some ⟨g, 0, none⟩) n cap) n xs) (hx : PcsAt w xs ps) (hn : n ≤ 1000000) :
    Calls Tryz.prog 91 #[q, .slice (some ⟨g, 0, none⟩) 0 cap, .slice (some ⟨g, 0, none⟩) n cap] w fun e w' => e = .returned (.slice (some ⟨g, 0, none⟩) n cap) ∧ Same w w' := by
  have hcap : n ≤ cap := by
    rcases hown.2 with ⟨h, _⟩ | ⟨_, _, _, h, _, _, hc, _⟩
    · cases h
    · cases h; exact hc
  go_enter Tryz.func91, Tryz.ntmps91
  go_wp2_with fail
  go_step3
  go_wp2_with fail
  go_step3
  go_wp2_with fail
  generalize hW : (World.alloc _ _ : World) = W
  have hS : Same w W := by subst hW; exact ((Mods.refl _ w).alloc _).alloc _
  have hD : Blk W w.heap.size #[.slice (some ⟨g, 0, none⟩) 0 cap] 88 := by subst hW; exact (Blk.newAt _ _ rfl).alloc _
  clear hW
  refine wp_loop_ghost_k (fun m a wr => ∃ (i : Nat) (v : Nat → Value), (m = n - i ∧ i ≤ n ∧ Same w wr ∧ Blk wr w.heap.size #[.slice (some ⟨g, 0, none⟩) i cap] 88) ∧
    a = ⟨#[q, .slice (some ⟨g, 0, none⟩) 0 cap, .slice (some ⟨g, 0, none⟩) n cap, undef, .pointer (some ⟨w.heap.size, 0, none⟩), undef, .slice none 0 0, .pointer (some ⟨w.heap.size + 1, 0, none⟩), .func (.func 129) #[] #[], .func (.func 130) #[] #[.pointer (some ⟨w.heap.size + 1, 0, none⟩), .pointer (some ⟨w.heap.size, 0, none⟩)], .int .i64 i, v 11, v 12, v 13, v 14, v 15, v 16, v 17, v 18, v 19, v 20, v 21, .func (.func 130) #[] #[.pointer (some ⟨w.heap.size + 1, 0, none⟩), .pointer (some ⟨w.heap.size, 0, none⟩)], v 23, v 24, v 25, v 26, v 27, v 28, v 29, v 30, v 31, v 32, v 33, v 34, v 35, v 36, v 37, v 38, v 39, v 40, v 41, v 42, v 43, v 44, v 45, v 46, v 47, v 48, v 49, v 50, v 51, v 52, v 53, v 54, v 55, v 56, v 57, v 58, v 59, v 60, v 61, v 62, v 63, v 64, v 65, v 66, v 67, v 68, v 69, v 70, v 71, v 72, v 73, v 74, v 75, v 76, v 77, v 78, v 79, v 80, v 81, v 82, v 83, v 84, v 85, v 86, v 87, v 88, v 89, v 90, v 91, v 92, v 93, v 94, v 95, v 96, v 97, v 98, v 99, v 100, v 101, v 102, v 103, v 104, v 105, v 106, v 107, v 108, v 109, v 110, v 111, v 112, v 113, v 114, v 115, v 116, v 117, v 118, v 119, v 120, v 121, v 122, v 123, v 124, v 125, v 126, v 127, v 128, v 129, v 130, v 131, v 132, v 133, v 134, v 135, v 136, v 137, v 138, v 139, v 140, v 141, v 142, v 143, v 144, v 145, v 146, v 147, v 148, v 149, v 150, v 151, v 152, v 153, v 154, v 155, v 156, v 157, v 158, v 159, v 160, v 161, v 162, v 163, v 164, v 165, v 166, v 167, v 168, v 169, v 170, v 171, v 172, v 173, v 174, v 175, v 176, v 177, v 178, v 179, v 180, v 181, v 182, v 183, v 184, v 185, v 186, v 187, v 188, v 189, v 190, v 191, v 192, v 193, v 194, v 195, v 196, v 197, v 198, v 199, v 200, v 201, v 202, v 203, v 204, v 205, v 206, v 207, v 208, v 209, v 210, v 211, v 212, v 213, v 214, v 215, v 216, v 217, v 218, v 219, v 220, v 221, v 222, v 223, v 224, v 225, v 226, v 227, v 228, v 229, v 230, v 231, v 232, v 233, v 234, v 235, v 236, v 237, v 238, v 239, v 240, v 241, v 242, v 243, v 244, v 245, v 246, v 247, v 248, v 249, v 250, v 251, v 252, v 253, v 254, v 255, v 256, v 257, v 258, v 259, v 260, v 261, v 262, v 263, v 264, v 265, v 266, v 267, v 268, v 269, v 270, v 271, v 272, v 273, v 274, v 275, v 276, v 277, v 278, v 279, v 280, v 281, v 282, v 283, v 284, v 285, v 286, v 287, v 288, v 289, v 290, v 291, v 292, v 293, v 294, v 295, v 296, v 297, v 298, v 299, v 300, v 301, v 302, v 303, v 304, v 305, v 306, v 307, v 308, v 309, v 310, v 311, v 312, v 313, v 314, v 315, v 316, v 317, v 318, v 319, v 320, v 321, v 322, v 323, v 324, v 325, v 326, v 327, v 328, v 329, v 330, v 331, v 332, v 333, v 334, v 335, v 336, v 337, v 338, v 339, v 340, v 341, v 342, v 343, v 344, v 345, v 346, v 347, v 348, v 349, v 350, v 351, v 352, v 353, v 354, v 355, v 356, v 357, v 358, v 359, v 360, v 361, v 362, v 363, v 364, v 365, v 366, v 367, v 368, v 369, v 370, v 371, v 372, v 373, v 374, v 375, v 376, v 377, v 378, v 379, v 380, v 381, v 382, v 383, v 384, v 385, v 386, v 387, v 388, v 389, v 390, v 391, v 392, v 393, v 394, v 395, v 396, v 397, v 398, v 399, v 400, v 401, v 402, v 403, v 404, v 405, v 406, v 407, v 408, v 409, v 410, v 411, v 412, v 413, v 414, v 415, v 416, v 417, v 418, v 419, v 420, v 421, v 422, v 423, v 424, v 425, v 426, v 427, v 428, v 429, v 430, v 431, v 432, v 433, v 434, v 435], []⟩) n ⟨0, fun _ => undef, ⟨rfl, Nat.zero_le _, hS, hD⟩, rfl⟩ ?_
  · clear hS hD
    intro gk a wr hinv
    obtain ⟨i, v, ⟨rfl, hi, hm, hD⟩, rfl⟩ := hinv
    intro J K hJ hK
    have hownr := ownsRow_keep hown hm (fun _ _ x => x)
    have hxr := hx.keep hm (fun _ _ _ _ _ x => x)
    have w1 : IntKind.i64.wrap ((i : Int) + 1) = (i : Int) + 1 := IntWalk.i64_in _ (by omega)
    have w2 : (0 : Int) ≤ i := by omega
    have hDc : wr.cell? ⟨w.heap.size, 0, none⟩ = some (.slice (some ⟨g, 0, none⟩) i cap) := hD.cell 0
    have hDf : wr.frozen? ⟨w.heap.size, 0, none⟩ = false := hD.fr 0
    have hDl := hD.lt
    have hDn : w.heap.size ≤ w.heap.size := Nat.le_refl _
    have HM := Lib.hid hm
    clear hm
    by_cases hlt : i < n
    · have w3 : (i : Int) < n := by omega
      have h1 := as_openPlain_no
      have h2 := as_openPlain_no2
      have h3 := as_emphPlain_no
      have h4 := as_emphPlain_no2
      rcases piece_at hownr hxr i hlt with ⟨b, s, hc, hxi, hpi⟩ | ⟨b, s, hc, hxi, hpi⟩
      all_goals
        go_wp2_with fail
        have hS : ∀ o, Same wr ((wr.alloc o).drew) := fun o => ((Mods.refl (fun _ => False) wr).alloc o).drew
        go_region_law (refine st_same_inl rfl (.tmp 55) (.tmp 60) rfl g i n cap xs (ownsRow_keep hownr (hS _) (fun _ _ x => x)) hlt _ hxi rfl wr.heap.size 1 rfl rfl ((Blk.drew (Blk.newAt _ _ rfl)).cell 0) ?_; intro wB hmB; obtain ⟨hm2, hD2, hDc', hDf', hDl'⟩ := emph_facts (hS _) hmB hD)
        all_goals
          go_wp2_with fail
          refine Handed.intro (n - (i + 1)) (by omega) (hJ _ _ _ ⟨i + 1, (fun d => cond (Nat.ble 11 d && Nat.ble d 61) (cond (Nat.ble d 42) (cond (Nat.ble d 26) (List.getD [_, _, _, _, _, _, _, _, _, _, _, undef, _, _, _, _] (d - 11) undef) (List.getD [_, _, _, _, _, _, _, _, _, _, _, _, _, _, _, _] (d - 27) undef)) (cond (Nat.ble d 58) (List.getD [_, _, _, _, _, _, _, _, _, _, _, _, _, _, _, _] (d - 43) undef) (List.getD [_, _, _] (d - 59) undef))) (v d)), ⟨rfl, by omega, emph_end HM.out hm2 hDn, Blk.set_same hD2 0 _⟩, rfl⟩)
    · have hin : i = n := by omega
      subst hin
      have w3 : ¬ ((i : Int) < i) := by omega
      go_wp2_with fail
      go_ret
      exact ⟨rfl, HM.out⟩
end Go.Proofs.YtdnlfdppjfjncaaGreatDoor
