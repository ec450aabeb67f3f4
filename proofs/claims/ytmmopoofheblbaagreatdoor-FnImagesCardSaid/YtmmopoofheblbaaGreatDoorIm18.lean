/- Some texts of one proof, put into one file: Emph4, EmphT, StruckP, Close4, Feed, One0. -/
import Derived.Deep.LoopGhost
import Derived.LoopN
import Derived.Deep.RegionHeld3
import Derived.Test.YtmmopoofheblbaaGreatDoorIm3
import Derived.Test.YtmmopoofheblbaaGreatDoorIm6
import Derived.Test.YtmmopoofheblbaaGreatDoorIm8
import Derived.Test.YtmmopoofheblbaaGreatDoorIm10
import Derived.Test.YtmmopoofheblbaaGreatDoorIm15
import Derived.Test.YtmmopoofheblbaaGreatDoorIm17
/- emph of a word between tildes among words: the walk. -/
namespace Go.Proofs.YtmmopoofheblbaaGreatDoor
open Go Go.RowKit Go.Proofs

/-- What stands at the begin of round i. -/
def St4 (w wr : World) (g cap m1 m2 T0 T2 T4 : Nat) (v0 v2 v4 : Value) (tt : ByteArray) (i : Nat) : Prop :=
  (i = 0 ∧ Em w wr g 5 cap w.heap.size (w.heap.size + 1) m1 m2 0 [.iface T0 v0, .iface 266 (.pointer (some ⟨m1, 0, none⟩)), .iface T2 v2, .iface 266 (.pointer (some ⟨m2, 0, none⟩)), .iface T4 v4] (stk2 sNil) #[.string tt, .bool true, .bool false, .int .i64 0, .int .i64 tt.size] #[.string tt, .bool false, .bool true, .int .i64 0, .int .i64 tt.size]) ∨ (i = 1 ∧ Em w wr g 5 cap w.heap.size (w.heap.size + 1) m1 m2 1 [.iface T0 v0, .iface 266 (.pointer (some ⟨m1, 0, none⟩)), .iface T2 v2, .iface 266 (.pointer (some ⟨m2, 0, none⟩)), .iface T4 v4] (stk2 sNil) #[.string tt, .bool true, .bool false, .int .i64 0, .int .i64 tt.size] #[.string tt, .bool false, .bool true, .int .i64 0, .int .i64 tt.size]) ∨
  ((i = 2 ∨ i = 3) ∧ ∃ sg sc, 1 ≤ sc ∧ w.heap.size ≤ sg ∧ Em w wr g 5 cap w.heap.size (w.heap.size + 1) m1 m2 i [.iface T0 v0, .iface 266 (.pointer (some ⟨m1, 0, none⟩)), .iface T2 v2, .iface 266 (.pointer (some ⟨m2, 0, none⟩)), .iface T4 v4] (stk2 (.slice (some ⟨sg, 0, none⟩) 1 sc)) #[.string tt, .bool true, .bool false, .int .i64 1, .int .i64 tt.size] #[.string tt, .bool false, .bool true, .int .i64 0, .int .i64 tt.size] ∧ wr.ownsRow 0 266 1 (.slice (some ⟨sg, 0, none⟩) 1 sc) 1 [.pointer (some ⟨m1, 0, none⟩)]) ∨
  (i = 4 ∧ ∃ sa db ig ic, w.heap.size ≤ ig ∧ Em w wr g 5 cap w.heap.size (w.heap.size + 1) m1 m2 2 [.iface T0 v0, .iface 205 (.pointer (some ⟨db, 0, none⟩)), .iface T2 v2, .iface 266 (.pointer (some ⟨m2, 0, none⟩)), .iface T4 v4] (sa) #[.string ⟨#[]⟩, .bool true, .bool false, .int .i64 1, .int .i64 tt.size] #[.string ⟨#[]⟩, .bool false, .bool true, .int .i64 0, .int .i64 tt.size] ∧ Blk wr db #[.string tt, .slice (some ⟨ig, 0, none⟩) 1 ic] 202 ∧ wr.ownsRow 0 157 1 (.slice (some ⟨ig, 0, none⟩) 1 ic) 1 [.iface T2 v2]) ∨
  (i = 5 ∧ ∃ sa db ig ic, w.heap.size ≤ ig ∧ Em w wr g 5 cap w.heap.size (w.heap.size + 1) m1 m2 3 [.iface T0 v0, .iface 205 (.pointer (some ⟨db, 0, none⟩)), .iface T4 v4, .iface 266 (.pointer (some ⟨m2, 0, none⟩)), .iface T4 v4] (sa) #[.string ⟨#[]⟩, .bool true, .bool false, .int .i64 1, .int .i64 tt.size] #[.string ⟨#[]⟩, .bool false, .bool true, .int .i64 0, .int .i64 tt.size] ∧ Blk wr db #[.string tt, .slice (some ⟨ig, 0, none⟩) 1 ic] 202 ∧ wr.ownsRow 0 157 1 (.slice (some ⟨ig, 0, none⟩) 1 ic) 1 [.iface T2 v2])

set_option maxRecDepth 100000 in
set_option maxHeartbeats 20000000 in
theorem emph_struck (q : Value) (g cap m1 m2 T0 T2 T4 : Nat) (v0 v2 v4 : Value) (tt : ByteArray) (w : World) (htt : tt = ⟨#[126]⟩ ∨ tt = ⟨#[126, 126]⟩)
    (hown : w.ownsRow 0 157 1 (.slice (some ⟨g, 0, none⟩) 5 cap) 5 [.iface T0 v0, .iface 266 (.pointer (some ⟨m1, 0, none⟩)), .iface T2 v2, .iface 266 (.pointer (some ⟨m2, 0, none⟩)), .iface T4 v4])
    (h0 : Quiet T0) (h2 : Quiet T2) (h4 : Quiet T4) (hM1 : Blk w m1 #[.string tt, .bool true, .bool false, .int .i64 0, .int .i64 tt.size] 268) (hM2 : Blk w m2 #[.string tt, .bool false, .bool true, .int .i64 0, .int .i64 tt.size] 268) (hm12 : m1 ≠ m2) (hgw : g < w.heap.size) :
    Calls Tryz.prog 117 #[q, .slice (some ⟨g, 0, none⟩) 0 cap, .slice (some ⟨g, 0, none⟩) 5 cap] w fun e w' => e = .returned (.slice (some ⟨g, 0, none⟩) 3 cap) ∧ St4 w w' g cap m1 m2 T0 T2 T4 v0 v2 v4 tt 5 := by
  have hcap : 5 ≤ cap := by
    rcases hown.2 with ⟨h, _⟩ | ⟨_, _, _, h, _, _, hc, _⟩
    · cases h
    · cases h; exact hc
  go_enter Tryz.func117, Tryz.ntmps117
  go_wp2_with fail
  go_step3
  go_wp2_with fail
  go_step3
  go_wp2_with fail
  generalize hW : (World.alloc _ _ : World) = W
  have hS : Same w W := by subst hW; exact ((Mods.refl _ w).alloc _).alloc _
  have hD : Blk W w.heap.size #[.slice (some ⟨g, 0, none⟩) 0 cap] 84 := by subst hW; exact (Blk.newAt _ _ rfl).alloc _
  have hK : Blk W (w.heap.size + 1) (stk2 sNil) 281 := by subst hW; exact Blk.newAt _ _ (by simp)
  clear hW
  have hE : Em w W g 5 cap w.heap.size (w.heap.size + 1) m1 m2 0 [.iface T0 v0, .iface 266 (.pointer (some ⟨m1, 0, none⟩)), .iface T2 v2, .iface 266 (.pointer (some ⟨m2, 0, none⟩)), .iface T4 v4] (stk2 sNil) #[.string tt, .bool true, .bool false, .int .i64 0, .int .i64 tt.size] #[.string tt, .bool false, .bool true, .int .i64 0, .int .i64 tt.size] := ⟨hS.mono (fun _ _ x => absurd x (fun x => x)), Nat.le_refl _, Nat.le_succ _, hD, hK, ownsRow_keep hown hS (fun _ _ x => x), hS.blk hM1, hS.blk hM2, by omega⟩
  clear hD hK hS hown hM1 hM2
  refine wp_loop_ghost_k (fun m a wr => ∃ (i : Nat) (v : Nat → Value), (m = 5 - i ∧ i ≤ 5 ∧ St4 w wr g cap m1 m2 T0 T2 T4 v0 v2 v4 tt i) ∧
    a = ⟨#[q, .slice (some ⟨g, 0, none⟩) 0 cap, .slice (some ⟨g, 0, none⟩) 5 cap, undef, .pointer (some ⟨w.heap.size, 0, none⟩), undef, .slice none 0 0, .pointer (some ⟨w.heap.size + 1, 0, none⟩), .func (.func 159) #[] #[], .func (.func 160) #[] #[.pointer (some ⟨w.heap.size + 1, 0, none⟩), .pointer (some ⟨w.heap.size, 0, none⟩)], .int .i64 i, v 11, v 12, v 13, v 14, v 15, v 16, v 17, v 18, v 19, v 20, v 21, .func (.func 160) #[] #[.pointer (some ⟨w.heap.size + 1, 0, none⟩), .pointer (some ⟨w.heap.size, 0, none⟩)], v 23, v 24, v 25, v 26, v 27, v 28, v 29, v 30, v 31, v 32, v 33, v 34, v 35, v 36, v 37, v 38, v 39, v 40, v 41, v 42, v 43, v 44, v 45, v 46, v 47, v 48, v 49, v 50, v 51, v 52, v 53, v 54, v 55, v 56, v 57, v 58, v 59, v 60, v 61, v 62, v 63, v 64, v 65, v 66, v 67, v 68, v 69, v 70, v 71, v 72, v 73, v 74, v 75, v 76, v 77, v 78, v 79, v 80, v 81, v 82, v 83, v 84, v 85, v 86, v 87, v 88, v 89, v 90, v 91, v 92, v 93, v 94, v 95, v 96, v 97, v 98, v 99, v 100, v 101, v 102, v 103, v 104, v 105, v 106, v 107, v 108, v 109, v 110, v 111, v 112, v 113, v 114, v 115, v 116, v 117, v 118, v 119, v 120, v 121, v 122, v 123, v 124, v 125, v 126, v 127, v 128, v 129, v 130, v 131, v 132, v 133, v 134, v 135, v 136, v 137, v 138, v 139, v 140, v 141, v 142, v 143, v 144, v 145, v 146, v 147, v 148, v 149, v 150, v 151, v 152, v 153, v 154, v 155, v 156, v 157, v 158, v 159, v 160, v 161, v 162, v 163, v 164, v 165, v 166, v 167, v 168, v 169, v 170, v 171, v 172, v 173, v 174, v 175, v 176, v 177, v 178, v 179, v 180, v 181, v 182, v 183, v 184, v 185, v 186, v 187, v 188, v 189, v 190, v 191, v 192, v 193, v 194, v 195, v 196, v 197, v 198, v 199, v 200, v 201, v 202, v 203, v 204, v 205, v 206, v 207, v 208, v 209, v 210, v 211, v 212, v 213, v 214, v 215, v 216, v 217, v 218, v 219, v 220, v 221, v 222, v 223, v 224, v 225, v 226, v 227, v 228, v 229, v 230, v 231, v 232, v 233, v 234, v 235, v 236, v 237, v 238, v 239, v 240, v 241, v 242, v 243, v 244, v 245, v 246, v 247, v 248, v 249, v 250, v 251, v 252, v 253, v 254, v 255, v 256, v 257, v 258, v 259, v 260, v 261, v 262, v 263, v 264, v 265, v 266, v 267, v 268, v 269, v 270, v 271, v 272, v 273, v 274, v 275, v 276, v 277, v 278, v 279, v 280, v 281, v 282, v 283, v 284, v 285, v 286, v 287, v 288, v 289, v 290, v 291, v 292, v 293, v 294, v 295, v 296, v 297, v 298, v 299, v 300, v 301, v 302, v 303, v 304, v 305, v 306, v 307, v 308, v 309, v 310, v 311, v 312, v 313, v 314, v 315, v 316, v 317, v 318, v 319, v 320, v 321, v 322, v 323, v 324, v 325, v 326, v 327, v 328, v 329, v 330, v 331, v 332, v 333, v 334, v 335, v 336, v 337, v 338, v 339, v 340, v 341, v 342, v 343, v 344, v 345, v 346, v 347, v 348, v 349, v 350, v 351, v 352, v 353, v 354, v 355, v 356, v 357, v 358, v 359, v 360, v 361, v 362, v 363, v 364, v 365, v 366, v 367, v 368, v 369, v 370, v 371, v 372, v 373, v 374, v 375, v 376, v 377, v 378, v 379, v 380, v 381, v 382, v 383, v 384, v 385, v 386, v 387, v 388, v 389, v 390, v 391, v 392, v 393, v 394, v 395, v 396, v 397, v 398, v 399, v 400, v 401, v 402, v 403, v 404, v 405, v 406, v 407, v 408, v 409, v 410, v 411, v 412, v 413, v 414, v 415, v 416, v 417, v 418, v 419, v 420, v 421, v 422, v 423, v 424, v 425, v 426, v 427, v 428, v 429, v 430, v 431, v 432, v 433, v 434, v 435], []⟩) 5 ⟨0, fun _ => undef, ⟨rfl, Nat.zero_le _, Or.inl ⟨rfl, hE⟩⟩, rfl⟩ ?_
  clear hE
  intro gk a wr hinv
  obtain ⟨i, v, ⟨rfl, hi, hst⟩, rfl⟩ := hinv
  intro J K hJ hK
  rcases hst with ⟨rfl, hE⟩ | ⟨rfl, hE⟩ | ⟨hi23, sg, sc, hsc, hsg, hE, hsr⟩ | ⟨rfl, sa, db, ig, ic, hdi, hE, hdb, hig⟩ | ⟨rfl, sa, db, ig, ic, hdi, hE, hdb, hig⟩
  · skip
    obtain ⟨k0, k1, k2⟩ := hE.cells
    have s0 : wr.cell? ⟨g, 0, none⟩ = some (.iface T0 v0) := hE.src 0 _ rfl
    have q1 := h0.open_
    have q2 := h0.emph
    have hSd : ∀ o, Same wr ((wr.alloc o).drew) := fun o => ((Mods.refl (fun _ => False) wr).alloc o).drew
    go_wp2_with fail
    go_region_law (refine st_room_inl rfl (.tmp 55) (.tmp 60) rfl g 0 5 cap _ (ownsRow_keep hE.row (hSd _) (fun _ _ x => x)) (by omega) (.iface T0 v0) rfl wr.heap.size 1 rfl rfl ((Blk.drew (Blk.newAt _ _ rfl)).cell 0) ?_; intro wB hmB hrB; have hEB := hE.app (hSd _) hmB hrB; obtain ⟨k0', k1', k2'⟩ := hEB.cells)
    all_goals
      go_wp2_with fail
      refine Handed.intro (5 - (0 + 1)) (by omega) (hJ _ _ _ ⟨0 + 1, (fun d => cond (Nat.ble 11 d && Nat.ble d 61) (cond (Nat.ble d 42) (cond (Nat.ble d 26) (List.getD [_, _, _, _, _, _, _, _, _, _, _, undef, _, _, _, _] (d - 11) undef) (List.getD [_, _, _, _, _, _, _, _, _, _, _, _, _, _, _, _] (d - 27) undef)) (cond (Nat.ble d 58) (List.getD [_, _, _, _, _, _, _, _, _, _, _, _, _, _, _, _] (d - 43) undef) (List.getD [_, _, _] (d - 59) undef))) (v d)), ⟨rfl, by omega, Or.inr (Or.inl ⟨rfl, hEB.setD 1⟩)⟩, rfl⟩)
  · obtain ⟨k0, k1, k2⟩ := hE.cells
    have s0 : wr.cell? ⟨g, 1, none⟩ = some (.iface 266 (.pointer (some ⟨m1, 0, none⟩))) := hE.src 1 _ rfl
    have q1 := as_open_mark
    have q2 := as_mark_yes
    have x0 := (hE.m1c 0).1
    have x1 := (hE.m1c 1).1
    have x2 := (hE.m1c 2).1
    obtain ⟨x3, x4, x5⟩ := hE.m1c 3
    have HE := Lib.hid hE
    clear hE
    rcases htt with rfl | rfl
    all_goals
      go_wp2_with fail
      refine (stackOf_n 126 2 wr (Or.inl ⟨rfl, rfl⟩)).mono ?_
      rintro e w' ⟨rfl, rfl⟩
      go_upto_region 59 with (fail)
      have hE1 := HE.out.setI hm12 3 (.int .i64 1)
      generalize (World.setCell wr _ _ : World) = w1 at hE1 ⊢
      clear k0 k1 k2 s0 q1 q2 x0 x1 x2 x3 x4 x5 HE
      obtain ⟨k0, k1, k2⟩ := hE1.cells
      go_wp2_with (at_builtin; refine wl_room_inl rfl (.tmp 415) (.tmp 418) rfl g 1 5 cap _ (ownsRow_keep hE1.row ((Mods.refl (fun _ => False) w1).alloc _) (fun _ _ x => x)) (by omega) (.iface 266 (.pointer (some ⟨m1, 0, none⟩))) rfl w1.heap.size 1 rfl rfl ((Blk.newAt _ _ rfl).cell 0) ?_)
      intro wB hmB hrB
      have hEB := hE1.app ((Mods.refl (fun _ => False) w1).alloc _) hmB hrB
      clear k0 k1 k2 hmB hrB hE1
      obtain ⟨k0, k1, k2⟩ := hEB.cells
      go_upto_region 60 with (fail)
      have hE2 := hEB.setD 2
      generalize (World.setCell wB _ _ : World) = w2 at hE2 ⊢
      clear k0 k1 k2 hEB
      obtain ⟨y0, y1, y2⟩ := hE2.sc 2
      have y0' : w2.cell? ⟨w.heap.size + 1, 2, none⟩ = some (.slice none 0 0) := y0
      clear y0
      go_wp2_with (at_builtin; refine ap_mark rfl (.tmp 423) (.tmp 425) rfl (.slice none 0 0) 0 [] rfl ⟨rfl, Or.inl ⟨rfl, rfl⟩⟩ w2.heap.size 1 (some ⟨m1, 0, none⟩) rfl ((Blk.newAt _ _ rfl).cell 0) (by omega) ?_)
      intro sg sc w3 hrow3 hgrow hloc
      have hS3 : Same w2 w3 := ((Mods.refl (fun _ => False) w2).alloc _).trans ((grown_mods hgrow).mono (fun _ _ h => by cases h))
      have hE3 := hE2.same hS3
      have hz := hE2.mods.size
      have hsg9 : w.heap.size ≤ sg := by
        rcases hloc with h | h
        · cases h
        · have h9 : sg = w2.heap.size + 1 := by simpa using h
          omega
      clear y0' y1 y2 hgrow hloc hS3 hE2
      obtain ⟨_, y1, y2⟩ := hE3.sc 2
      have hsc1 : 1 ≤ sc := by
        rcases hrow3.2 with ⟨h, _⟩ | ⟨_, _, _, h, _, _, hc, _⟩
        · cases h
        · cases h; exact hc
      go_wp2_with fail
      have hE4 := hE3.setS 2 (.slice (some ⟨sg, 0, none⟩) (0 + 1) sc)
      have hr4 := row_set3 hE3 hrow3 2 (.slice (some ⟨sg, 0, none⟩) (0 + 1) sc)
      refine Handed.intro (5 - (1 + 1)) (by omega) (hJ _ _ _ ⟨1 + 1, (fun d => cond (Nat.ble 11 d && Nat.ble d 434) (cond (Nat.ble d 218) (cond (Nat.ble d 106) (cond (Nat.ble d 58) (cond (Nat.ble d 26) (List.getD [_, _, _, _, _, _, _, _, _, _, _, undef, _, _, _, _] (d - 11) undef) (cond (Nat.ble d 42) (List.getD [_, _, _, _, _, _, _, _, _, _, _, _, _, _, _, _] (d - 27) undef) (List.getD [_, _, _, _, _, _, _, _, _, _, _, _, _, _, _, _] (d - 43) undef))) (cond (Nat.ble d 74) (List.getD [_, _, _, _, _, _, _, _, _, _, _, _, _, _, _, _] (d - 59) undef) (cond (Nat.ble d 90) (List.getD [_, _, _, _, _, _, _, _, _, _, _, _, _, _, _, _] (d - 75) undef) (List.getD [_, _, _, _, _, _, _, _, _, _, _, _, _, _, _, _] (d - 91) undef)))) (cond (Nat.ble d 154) (cond (Nat.ble d 122) (List.getD [_, _, _, _, _, _, _, _, _, _, _, _, _, _, _, _] (d - 107) undef) (cond (Nat.ble d 138) (List.getD [_, _, _, _, _, _, _, _, _, _, _, _, _, _, _, _] (d - 123) undef) (List.getD [_, _, _, _, _, _, _, _, _, _, _, _, _, _, _, _] (d - 139) undef))) (cond (Nat.ble d 186) (cond (Nat.ble d 170) (List.getD [_, _, _, _, _, _, _, _, _, _, _, _, _, _, _, _] (d - 155) undef) (List.getD [_, _, _, _, _, _, _, _, _, _, _, _, _, _, _, _] (d - 171) undef)) (cond (Nat.ble d 202) (List.getD [_, _, _, _, _, _, _, _, _, _, _, _, _, _, _, _] (d - 187) undef) (List.getD [_, _, _, _, _, _, _, _, _, _, _, _, _, _, _, _] (d - 203) undef))))) (cond (Nat.ble d 330) (cond (Nat.ble d 266) (cond (Nat.ble d 234) (List.getD [_, _, _, _, _, _, _, _, _, _, _, _, _, _, _, _] (d - 219) undef) (cond (Nat.ble d 250) (List.getD [_, _, _, _, _, _, _, _, _, _, _, _, _, _, _, _] (d - 235) undef) (List.getD [_, _, _, _, _, _, _, _, _, _, _, _, _, _, _, _] (d - 251) undef))) (cond (Nat.ble d 298) (cond (Nat.ble d 282) (List.getD [_, _, _, _, _, _, _, _, _, _, _, _, _, _, _, _] (d - 267) undef) (List.getD [_, _, _, _, _, _, _, _, _, _, _, _, _, _, _, _] (d - 283) undef)) (cond (Nat.ble d 314) (List.getD [_, _, _, _, _, _, _, _, _, _, _, _, _, _, _, _] (d - 299) undef) (List.getD [_, _, _, _, _, _, _, _, _, _, _, _, _, _, _, _] (d - 315) undef)))) (cond (Nat.ble d 378) (cond (Nat.ble d 346) (List.getD [_, _, _, _, _, _, _, _, _, _, _, _, _, _, _, _] (d - 331) undef) (cond (Nat.ble d 362) (List.getD [_, _, _, _, _, _, _, _, _, _, _, _, _, _, _, _] (d - 347) undef) (List.getD [_, _, _, _, _, _, _, _, _, _, _, _, _, _, _, _] (d - 363) undef))) (cond (Nat.ble d 410) (cond (Nat.ble d 394) (List.getD [_, _, _, _, _, _, _, _, _, _, _, _, _, _, _, _] (d - 379) undef) (List.getD [_, _, _, _, _, _, _, _, _, _, _, _, _, _, _, _] (d - 395) undef)) (cond (Nat.ble d 426) (List.getD [_, _, _, _, _, _, _, _, _, _, _, _, _, _, _, _] (d - 411) undef) (List.getD [_, _, _, _, _, _, _, _] (d - 427) undef)))))) (v d)), ⟨rfl, by omega, Or.inr (Or.inr (Or.inl ⟨Or.inl rfl, sg, sc, hsc1, hsg9, hE4, hr4⟩))⟩, rfl⟩)
  · rcases hi23 with rfl | rfl
    · skip
      obtain ⟨k0, k1, k2⟩ := hE.cells
      have s0 : wr.cell? ⟨g, 2, none⟩ = some (.iface T2 v2) := hE.src 2 _ rfl
      have q1 := h2.open_
      have q2 := h2.emph
      have hSd : ∀ o, Same wr ((wr.alloc o).drew) := fun o => ((Mods.refl (fun _ => False) wr).alloc o).drew
      go_wp2_with fail
      go_region_law (refine st_room_inl rfl (.tmp 55) (.tmp 60) rfl g 2 5 cap _ (ownsRow_keep hE.row (hSd _) (fun _ _ x => x)) (by omega) (.iface T2 v2) rfl wr.heap.size 1 rfl rfl ((Blk.drew (Blk.newAt _ _ rfl)).cell 0) ?_; intro wB hmB hrB; have hEB := hE.app (hSd _) hmB hrB; obtain ⟨k0', k1', k2'⟩ := hEB.cells)
      all_goals
        go_wp2_with fail
        refine Handed.intro (5 - (2 + 1)) (by omega) (hJ _ _ _ ⟨2 + 1, (fun d => cond (Nat.ble 11 d && Nat.ble d 61) (cond (Nat.ble d 42) (cond (Nat.ble d 26) (List.getD [_, _, _, _, _, _, _, _, _, _, _, undef, _, _, _, _] (d - 11) undef) (List.getD [_, _, _, _, _, _, _, _, _, _, _, _, _, _, _, _] (d - 27) undef)) (cond (Nat.ble d 58) (List.getD [_, _, _, _, _, _, _, _, _, _, _, _, _, _, _, _] (d - 43) undef) (List.getD [_, _, _] (d - 59) undef))) (v d)), ⟨rfl, by omega, Or.inr (Or.inr (Or.inl ⟨Or.inr rfl, sg, sc, hsc, hsg, hEB.setD 3, row_setD hEB (row_app hE hsr (hSd _) hmB) _⟩))⟩, rfl⟩)
    · obtain ⟨k0, k1, k2⟩ := hE.cells
      have s0 : wr.cell? ⟨g, 3, none⟩ = some (.iface 266 (.pointer (some ⟨m2, 0, none⟩))) := hE.src 3 _ rfl
      have s2 : wr.cell? ⟨g, 2, none⟩ = some (.iface T2 v2) := hE.src 2 _ rfl
      have q1 := as_open_mark
      have q2 := as_mark_yes
      have x0 := (hE.m2c 0).1
      have x1 := (hE.m2c 1).1
      have x2 := (hE.m2c 2).1
      have z0 := (hE.m1c 0).1
      have z1 := (hE.m1c 1).1
      have z2 := (hE.m1c 2).1
      have z3 := (hE.m1c 3).1
      have y2 : wr.cell? ⟨w.heap.size + 1, 2, none⟩ = some (.slice (some ⟨sg, 0, none⟩) 1 sc) := (hE.sc 2).1
      obtain ⟨_, _, he, _, _, hrc⟩ := ownsRow_form hsr (by omega)
      cases he
      have y3 : wr.cell? ⟨sg, 0, none⟩ = some (.pointer (some ⟨m1, 0, none⟩)) := hrc 0 _ rfl
      have HE := Lib.hid hE
      clear hE hrc
      have u0 : ∀ h : 0 < tt.size, ((tt[0]'h).toNat : Int) = 126 := by rcases htt with rfl | rfl <;> exact fun _ => rfl
      rcases htt with rfl | rfl
      · skip
        go_wp2_with fail
        go_step3
        go_wp2_with fail
        refine (stackOf_n 126 2 wr (Or.inl ⟨rfl, rfl⟩)).mono ?_
        rintro e w' ⟨rfl, rfl⟩
        go_wp2_with fail
        go_step3
        go_wp2_with fail
        refine wp_loop_rounds 2 ?_
        rw [rounds_succ]
        go_wp2_with fail
        refine wp_loop_rounds 1 ?_
        rw [rounds_succ]
        go_wp2_with fail
        go_quiet (fail)
        go_wp2_with fail
        go_quiet (fail)
        go_wp2_with fail
        generalize hX : (World.drewN _ _ : World) = X
        have hSX : Same wr X := by subst hX; exact (Mods.refl _ wr).drewN _
        clear hX k0 k1 k2 s0 s2 q1 q2 x0 x1 x2 z0 z1 z2 z3 y2 y3
        have hE1 := HE.out.same hSX
        have hsr1 := ownsRow_keep hsr hSX (fun _ _ x => x)
        clear HE hSX
        obtain ⟨k0, k1, k2⟩ := hE1.cells
        have s2 : X.cell? ⟨g, 2, none⟩ = some (.iface T2 v2) := hE1.src 2 _ rfl
        obtain ⟨x0, xf, xl⟩ := hE1.m2c 0
        obtain ⟨z0, zf, zl⟩ := hE1.m1c 0
        have z3 := (hE1.m1c 3).1
        have c2 : (2 : Int) ≤ cap := by omega
        have c3 : (3 : Int) ≤ cap := by omega
        have c4 : ¬ (cap : Int) = 2 := by omega
        have c5 : (0 : Int) ≤ cap := by omega
        have c6 : ¬ cap = 2 := by omega
        have c7 : IntKind.i64.wrap 2 = 2 := by decide
        go_region_held3 (fun w' => w'.cell? ⟨w.heap.size, 0, none⟩ = some (.slice (some ⟨g, 0, none⟩) 3 cap) ∧ w'.cell? ⟨m2, 0, none⟩ = some (.string ⟨#[126]⟩) ∧ w'.cell? ⟨m1, 3, none⟩ = some (.int .i64 1)) (first | (refine ⟨?_, ?_, ?_⟩ <;> assumption) | go_keep)
          ((refine st_inl_at (by rfl) (.const (.slice none 0 0)) (.tmp 291) (by rfl) (.slice none 0 0) 0 [] (by rfl) ⟨rfl, Or.inl ⟨rfl, rfl⟩⟩ g 2 (cap - 2) T2 v2 (by rfl) (by exact s2) (by omega) ?_; intro ig ic w1 hrow hgrow hloc; have hE2 := hE1.same (((Mods.refl (fun _ => False) X).drew).trans ((grown_mods hgrow).mono (fun _ _ h => by cases h))); have n0 : w1.cell? ⟨w.heap.size, 0, none⟩ = some (.slice (some ⟨g, 0, none⟩) 3 cap) := hE2.cells.1; have n1 : w1.cell? ⟨m2, 0, none⟩ = some (.string ⟨#[126]⟩) := (hE2.m2c 0).1; have n3 : w1.cell? ⟨m1, 3, none⟩ = some (.int .i64 1) := (hE2.m1c 3).1))
        clear k0 k1 k2 s2 x0 xf xl z0 zf zl z3 n0 n1 n3
        generalize hX2 : (World.alloc w1 _ : World) = X2
        have hS2 : Same w1 X2 := by subst hX2; exact (Mods.refl (fun _ => False) w1).alloc _
        have hDb : Blk X2 w1.heap.size #[.string ⟨#[126]⟩, .slice (some ⟨ig, 0, none⟩) 1 ic] 202 := by subst hX2; exact Blk.newAt _ _ rfl
        clear hX2
        have hE3 := hE2.same hS2
        have hIg : X2.ownsRow 0 157 1 (.slice (some ⟨ig, 0, none⟩) 1 ic) 1 [.iface T2 v2] := ownsRow_keep hrow hS2 (fun _ _ x => x)
        have hsr3 := ownsRow_keep hsr1 ((((Mods.refl (fun _ => False) X).drew).trans ((grown_mods hgrow).mono (fun _ _ h => by cases h))).trans hS2) (fun _ _ x => x)
        have hig9 : w.heap.size ≤ ig := by
          rcases hloc with h | h
          · cases h
          · rw [h]
            exact hE1.mods.size
        clear hE1 hE2 hS2 hrow hgrow hloc hsr1
        obtain ⟨k0, k1, k2⟩ := hE3.cells
        obtain ⟨x0, xf, xl⟩ := hE3.m2c 0
        obtain ⟨z0, zf, zl⟩ := hE3.m1c 0
        have z3 := (hE3.m1c 3).1
        have HE3 := Lib.hid hE3
        have HDb := Lib.hid hDb
        have HIg := Lib.hid hIg
        have HSr := Lib.hid hsr3
        clear hE3 hDb hIg hsr3
        go_wp2_with fail
        go_region
        go_wp2_with fail
        clear k0 k1 k2 x0 xf xl z0 zf zl z3
        have hm4 := two_mods X2 m1 m2 (.string ByteArray.empty) (.string ByteArray.empty)
        have hE4 := (HE3.out.setI hm12 0 (.string ByteArray.empty)).setJ hm12 0 (.string ByteArray.empty)
        generalize (World.setCell (World.setCell X2 _ _) _ _ : World) = Y at hm4 hE4 ⊢
        have hDb4 := two_blk HE3.out hm4 HDb.out (by decide)
        have hIg4 := two_row HE3.out hm4 HIg.out (by decide)
        have hSr4 := two_row HE3.out hm4 HSr.out (by decide)
        clear hm4 HE3 HDb HIg HSr
        obtain ⟨k0, k1, k2⟩ := hE4.cells
        have z3 := (hE4.m1c 3).1
        have HE4 := Lib.hid hE4
        have HDb := Lib.hid hDb4
        have HIg := Lib.hid hIg4
        have HSr := Lib.hid hSr4
        clear hE4 hDb4 hIg4 hSr4
        go_region
        go_wp2_with fail
        have hDb5 := db_setD HE4.out HDb.out (.slice (some ⟨g, 0, none⟩) 1 cap)
        have hIg5 := ig_setD HE4.out HIg.out (.slice (some ⟨g, 0, none⟩) 1 cap)
        have hSr5 := row_setD HE4.out HSr.out (.slice (some ⟨g, 0, none⟩) 1 cap)
        have hE5 := HE4.out.setD 1
        clear k0 k1 k2 z3 HE4 HDb HIg HSr
        generalize (World.setCell Y _ _ : World) = Z at hDb5 hIg5 hSr5 hE5 ⊢
        have hSZ : Same Z Z.drew.drew := ((Mods.refl (fun _ => False) Z).drew).drew
        generalize (World.drew (World.drew Z) : World) = V at hSZ ⊢
        have hE6 := hE5.same hSZ
        have hDb6 := hSZ.blk hDb5
        have hIg6 := ownsRow_keep hIg5 hSZ (fun _ _ x => x)
        have hSr6 := ownsRow_keep hSr5 hSZ (fun _ _ x => x)
        clear hDb5 hIg5 hSr5 hE5 hSZ
        refine (trim_tilde _ _ m1 sg sc 1 1 (some ⟨g, 0, none⟩) cap _ V hE6.S hE6.D hSr6 hE6.b1 rfl (Nat.le_refl _) hsc).mono ?_
        rintro e V2 ⟨rfl, hT⟩
        have hE7 := hE6.trimmed hT
        have hDb7 := S_blk hE6 hT.1 hDb6 (by decide)
        have hIg7 := S_row hE6 hT.1 hIg6 (by decide)
        clear hE6 hDb6 hIg6 hSr6 hT
        have HE7 := Lib.hid hE7
        have HDb := Lib.hid hDb7
        have HIg := Lib.hid hIg7
        obtain ⟨k0, k1, k2⟩ := hE7.cells
        clear hE7 hDb7 hIg7
        go_wp2_with (at_builtin; refine wl_room_inl rfl (.tmp 346) (.tmp 349) rfl g 1 5 cap _ (ownsRow_keep HE7.out.row ((Mods.refl (fun _ => False) V2).alloc _) (fun _ _ x => x)) (by omega) (.iface 205 (.pointer (some ⟨w1.heap.size, 0, none⟩))) rfl V2.heap.size 1 rfl rfl ((Blk.newAt _ _ rfl).cell 0) ?_)
        intro wB hmB hrB
        have hEB := HE7.out.app ((Mods.refl (fun _ => False) V2).alloc _) hmB hrB
        have hDbB := db_app HE7.out HDb.out ((Mods.refl (fun _ => False) V2).alloc _) hmB
        have hIgB := ig_app HE7.out HIg.out (by omega) ((Mods.refl (fun _ => False) V2).alloc _) hmB
        clear k0 k1 k2 hmB hrB HE7 HDb HIg
        obtain ⟨k0, k1, k2⟩ := hEB.cells
        have HEB := Lib.hid hEB
        have HDb := Lib.hid hDbB
        have HIg := Lib.hid hIgB
        clear hEB hDbB hIgB
        go_wp2_with fail
        have hEU := HEB.out.setD 2
        have hDbU := db_setD HEB.out HDb.out (.slice (some ⟨g, 0, none⟩) 2 cap)
        have hIgU := ig_setD HEB.out HIg.out (.slice (some ⟨g, 0, none⟩) 2 cap)
        clear k0 k1 k2 HEB HDb HIg
        generalize (World.setCell wB _ _ : World) = U at hEU hDbU hIgU ⊢
        have x0 := (hEU.m2c 0).1
        have HEU := Lib.hid hEU
        clear hEU
        rw [rounds_succ]
        go_wp2_with fail
        rw [Exit.noGoto_normal]
        go_wp2_with fail
        refine Handed.intro (5 - (3 + 1)) (by omega) (hJ _ _ _ ⟨3 + 1, (fun d => cond (Nat.ble 11 d && Nat.ble d 434) (cond (Nat.ble d 218) (cond (Nat.ble d 106) (cond (Nat.ble d 58) (cond (Nat.ble d 26) (List.getD [_, _, _, _, _, _, _, _, _, _, _, undef, _, _, _, _] (d - 11) undef) (cond (Nat.ble d 42) (List.getD [_, _, _, _, _, _, _, _, _, _, _, _, _, _, _, _] (d - 27) undef) (List.getD [_, _, _, _, _, _, _, _, _, _, _, _, _, _, _, _] (d - 43) undef))) (cond (Nat.ble d 74) (List.getD [_, _, _, _, _, _, _, _, _, _, _, _, _, _, _, _] (d - 59) undef) (cond (Nat.ble d 90) (List.getD [_, _, _, _, _, _, _, _, _, _, _, _, _, _, _, _] (d - 75) undef) (List.getD [_, _, _, _, _, _, _, _, _, _, _, _, _, _, _, _] (d - 91) undef)))) (cond (Nat.ble d 154) (cond (Nat.ble d 122) (List.getD [_, _, _, _, _, _, _, _, _, _, _, _, _, _, _, _] (d - 107) undef) (cond (Nat.ble d 138) (List.getD [_, _, _, _, _, _, _, _, _, _, _, _, _, _, _, _] (d - 123) undef) (List.getD [_, _, _, _, _, _, _, _, _, _, _, _, _, _, _, _] (d - 139) undef))) (cond (Nat.ble d 186) (cond (Nat.ble d 170) (List.getD [_, _, _, _, _, _, _, _, _, _, _, _, _, _, _, _] (d - 155) undef) (List.getD [_, _, _, _, _, _, _, _, _, _, _, _, _, _, _, _] (d - 171) undef)) (cond (Nat.ble d 202) (List.getD [_, _, _, _, _, _, _, _, _, _, _, _, _, _, _, _] (d - 187) undef) (List.getD [_, _, _, _, _, _, _, _, _, _, _, _, _, _, _, _] (d - 203) undef))))) (cond (Nat.ble d 330) (cond (Nat.ble d 266) (cond (Nat.ble d 234) (List.getD [_, _, _, _, _, _, _, _, _, _, _, _, _, _, _, _] (d - 219) undef) (cond (Nat.ble d 250) (List.getD [_, _, _, _, _, _, _, _, _, _, _, _, _, _, _, _] (d - 235) undef) (List.getD [_, _, _, _, _, _, _, _, _, _, _, _, _, _, _, _] (d - 251) undef))) (cond (Nat.ble d 298) (cond (Nat.ble d 282) (List.getD [_, _, _, _, _, _, _, _, _, _, _, _, _, _, _, _] (d - 267) undef) (List.getD [_, _, _, _, _, _, _, _, _, _, _, _, _, _, _, _] (d - 283) undef)) (cond (Nat.ble d 314) (List.getD [_, _, _, _, _, _, _, _, _, _, _, _, _, _, _, _] (d - 299) undef) (List.getD [_, _, _, _, _, _, _, _, _, _, _, _, _, _, _, _] (d - 315) undef)))) (cond (Nat.ble d 378) (cond (Nat.ble d 346) (List.getD [_, _, _, _, _, _, _, _, _, _, _, _, _, _, _, _] (d - 331) undef) (cond (Nat.ble d 362) (List.getD [_, _, _, _, _, _, _, _, _, _, _, _, _, _, _, _] (d - 347) undef) (List.getD [_, _, _, _, _, _, _, _, _, _, _, _, _, _, _, _] (d - 363) undef))) (cond (Nat.ble d 410) (cond (Nat.ble d 394) (List.getD [_, _, _, _, _, _, _, _, _, _, _, _, _, _, _, _] (d - 379) undef) (List.getD [_, _, _, _, _, _, _, _, _, _, _, _, _, _, _, _] (d - 395) undef)) (cond (Nat.ble d 426) (List.getD [_, _, _, _, _, _, _, _, _, _, _, _, _, _, _, _] (d - 411) undef) (List.getD [_, _, _, _, _, _, _, _] (d - 427) undef)))))) (v d)), ⟨rfl, by omega, Or.inr (Or.inr (Or.inr (Or.inl ⟨rfl, _, w1.heap.size, ig, ic, hig9, HEU.out, hDbU, hIgU⟩)))⟩, rfl⟩)
      · skip
        go_wp2_with fail
        go_step3
        go_wp2_with fail
        refine (stackOf_n 126 2 wr (Or.inl ⟨rfl, rfl⟩)).mono ?_
        rintro e w' ⟨rfl, rfl⟩
        go_wp2_with fail
        go_step3
        go_wp2_with fail
        refine wp_loop_rounds 2 ?_
        rw [rounds_succ]
        go_wp2_with fail
        refine wp_loop_rounds 1 ?_
        rw [rounds_succ]
        go_wp2_with fail
        go_quiet (fail)
        go_wp2_with fail
        go_quiet (fail)
        go_wp2_with fail
        generalize hX : (World.drewN _ _ : World) = X
        have hSX : Same wr X := by subst hX; exact (Mods.refl _ wr).drewN _
        clear hX k0 k1 k2 s0 s2 q1 q2 x0 x1 x2 z0 z1 z2 z3 y2 y3
        have hE1 := HE.out.same hSX
        have hsr1 := ownsRow_keep hsr hSX (fun _ _ x => x)
        clear HE hSX
        obtain ⟨k0, k1, k2⟩ := hE1.cells
        have s2 : X.cell? ⟨g, 2, none⟩ = some (.iface T2 v2) := hE1.src 2 _ rfl
        obtain ⟨x0, xf, xl⟩ := hE1.m2c 0
        obtain ⟨z0, zf, zl⟩ := hE1.m1c 0
        have z3 := (hE1.m1c 3).1
        have c2 : (2 : Int) ≤ cap := by omega
        have c3 : (3 : Int) ≤ cap := by omega
        have c4 : ¬ (cap : Int) = 2 := by omega
        have c5 : (0 : Int) ≤ cap := by omega
        have c6 : ¬ cap = 2 := by omega
        have c7 : IntKind.i64.wrap 2 = 2 := by decide
        go_region_held3 (fun w' => w'.cell? ⟨w.heap.size, 0, none⟩ = some (.slice (some ⟨g, 0, none⟩) 3 cap) ∧ w'.cell? ⟨m2, 0, none⟩ = some (.string ⟨#[126, 126]⟩) ∧ w'.cell? ⟨m1, 3, none⟩ = some (.int .i64 1)) (first | (refine ⟨?_, ?_, ?_⟩ <;> assumption) | go_keep)
          ((refine st_inl_at (by rfl) (.const (.slice none 0 0)) (.tmp 291) (by rfl) (.slice none 0 0) 0 [] (by rfl) ⟨rfl, Or.inl ⟨rfl, rfl⟩⟩ g 2 (cap - 2) T2 v2 (by rfl) (by exact s2) (by omega) ?_; intro ig ic w1 hrow hgrow hloc; have hE2 := hE1.same (((Mods.refl (fun _ => False) X).drew).trans ((grown_mods hgrow).mono (fun _ _ h => by cases h))); have n0 : w1.cell? ⟨w.heap.size, 0, none⟩ = some (.slice (some ⟨g, 0, none⟩) 3 cap) := hE2.cells.1; have n1 : w1.cell? ⟨m2, 0, none⟩ = some (.string ⟨#[126, 126]⟩) := (hE2.m2c 0).1; have n3 : w1.cell? ⟨m1, 3, none⟩ = some (.int .i64 1) := (hE2.m1c 3).1))
        clear k0 k1 k2 s2 x0 xf xl z0 zf zl z3 n0 n1 n3
        generalize hX2 : (World.alloc w1 _ : World) = X2
        have hS2 : Same w1 X2 := by subst hX2; exact (Mods.refl (fun _ => False) w1).alloc _
        have hDb : Blk X2 w1.heap.size #[.string ⟨#[126, 126]⟩, .slice (some ⟨ig, 0, none⟩) 1 ic] 202 := by subst hX2; exact Blk.newAt _ _ rfl
        clear hX2
        have hE3 := hE2.same hS2
        have hIg : X2.ownsRow 0 157 1 (.slice (some ⟨ig, 0, none⟩) 1 ic) 1 [.iface T2 v2] := ownsRow_keep hrow hS2 (fun _ _ x => x)
        have hsr3 := ownsRow_keep hsr1 ((((Mods.refl (fun _ => False) X).drew).trans ((grown_mods hgrow).mono (fun _ _ h => by cases h))).trans hS2) (fun _ _ x => x)
        have hig9 : w.heap.size ≤ ig := by
          rcases hloc with h | h
          · cases h
          · rw [h]
            exact hE1.mods.size
        clear hE1 hE2 hS2 hrow hgrow hloc hsr1
        obtain ⟨k0, k1, k2⟩ := hE3.cells
        obtain ⟨x0, xf, xl⟩ := hE3.m2c 0
        obtain ⟨z0, zf, zl⟩ := hE3.m1c 0
        have z3 := (hE3.m1c 3).1
        have HE3 := Lib.hid hE3
        have HDb := Lib.hid hDb
        have HIg := Lib.hid hIg
        have HSr := Lib.hid hsr3
        clear hE3 hDb hIg hsr3
        go_wp2_with fail
        go_region
        go_wp2_with fail
        clear k0 k1 k2 x0 xf xl z0 zf zl z3
        have hm4 := two_mods X2 m1 m2 (.string ByteArray.empty) (.string ByteArray.empty)
        have hE4 := (HE3.out.setI hm12 0 (.string ByteArray.empty)).setJ hm12 0 (.string ByteArray.empty)
        generalize (World.setCell (World.setCell X2 _ _) _ _ : World) = Y at hm4 hE4 ⊢
        have hDb4 := two_blk HE3.out hm4 HDb.out (by decide)
        have hIg4 := two_row HE3.out hm4 HIg.out (by decide)
        have hSr4 := two_row HE3.out hm4 HSr.out (by decide)
        clear hm4 HE3 HDb HIg HSr
        obtain ⟨k0, k1, k2⟩ := hE4.cells
        have z3 := (hE4.m1c 3).1
        have HE4 := Lib.hid hE4
        have HDb := Lib.hid hDb4
        have HIg := Lib.hid hIg4
        have HSr := Lib.hid hSr4
        clear hE4 hDb4 hIg4 hSr4
        go_region
        go_wp2_with fail
        have hDb5 := db_setD HE4.out HDb.out (.slice (some ⟨g, 0, none⟩) 1 cap)
        have hIg5 := ig_setD HE4.out HIg.out (.slice (some ⟨g, 0, none⟩) 1 cap)
        have hSr5 := row_setD HE4.out HSr.out (.slice (some ⟨g, 0, none⟩) 1 cap)
        have hE5 := HE4.out.setD 1
        clear k0 k1 k2 z3 HE4 HDb HIg HSr
        generalize (World.setCell Y _ _ : World) = Z at hDb5 hIg5 hSr5 hE5 ⊢
        have hSZ : Same Z Z.drew.drew := ((Mods.refl (fun _ => False) Z).drew).drew
        generalize (World.drew (World.drew Z) : World) = V at hSZ ⊢
        have hE6 := hE5.same hSZ
        have hDb6 := hSZ.blk hDb5
        have hIg6 := ownsRow_keep hIg5 hSZ (fun _ _ x => x)
        have hSr6 := ownsRow_keep hSr5 hSZ (fun _ _ x => x)
        clear hDb5 hIg5 hSr5 hE5 hSZ
        refine (trim_tilde _ _ m1 sg sc 1 1 (some ⟨g, 0, none⟩) cap _ V hE6.S hE6.D hSr6 hE6.b1 rfl (Nat.le_refl _) hsc).mono ?_
        rintro e V2 ⟨rfl, hT⟩
        have hE7 := hE6.trimmed hT
        have hDb7 := S_blk hE6 hT.1 hDb6 (by decide)
        have hIg7 := S_row hE6 hT.1 hIg6 (by decide)
        clear hE6 hDb6 hIg6 hSr6 hT
        have HE7 := Lib.hid hE7
        have HDb := Lib.hid hDb7
        have HIg := Lib.hid hIg7
        obtain ⟨k0, k1, k2⟩ := hE7.cells
        clear hE7 hDb7 hIg7
        go_wp2_with (at_builtin; refine wl_room_inl rfl (.tmp 346) (.tmp 349) rfl g 1 5 cap _ (ownsRow_keep HE7.out.row ((Mods.refl (fun _ => False) V2).alloc _) (fun _ _ x => x)) (by omega) (.iface 205 (.pointer (some ⟨w1.heap.size, 0, none⟩))) rfl V2.heap.size 1 rfl rfl ((Blk.newAt _ _ rfl).cell 0) ?_)
        intro wB hmB hrB
        have hEB := HE7.out.app ((Mods.refl (fun _ => False) V2).alloc _) hmB hrB
        have hDbB := db_app HE7.out HDb.out ((Mods.refl (fun _ => False) V2).alloc _) hmB
        have hIgB := ig_app HE7.out HIg.out (by omega) ((Mods.refl (fun _ => False) V2).alloc _) hmB
        clear k0 k1 k2 hmB hrB HE7 HDb HIg
        obtain ⟨k0, k1, k2⟩ := hEB.cells
        have HEB := Lib.hid hEB
        have HDb := Lib.hid hDbB
        have HIg := Lib.hid hIgB
        clear hEB hDbB hIgB
        go_wp2_with fail
        have hEU := HEB.out.setD 2
        have hDbU := db_setD HEB.out HDb.out (.slice (some ⟨g, 0, none⟩) 2 cap)
        have hIgU := ig_setD HEB.out HIg.out (.slice (some ⟨g, 0, none⟩) 2 cap)
        clear k0 k1 k2 HEB HDb HIg
        generalize (World.setCell wB _ _ : World) = U at hEU hDbU hIgU ⊢
        have x0 := (hEU.m2c 0).1
        have HEU := Lib.hid hEU
        clear hEU
        rw [rounds_succ]
        go_wp2_with fail
        rw [Exit.noGoto_normal]
        go_wp2_with fail
        refine Handed.intro (5 - (3 + 1)) (by omega) (hJ _ _ _ ⟨3 + 1, (fun d => cond (Nat.ble 11 d && Nat.ble d 434) (cond (Nat.ble d 218) (cond (Nat.ble d 106) (cond (Nat.ble d 58) (cond (Nat.ble d 26) (List.getD [_, _, _, _, _, _, _, _, _, _, _, undef, _, _, _, _] (d - 11) undef) (cond (Nat.ble d 42) (List.getD [_, _, _, _, _, _, _, _, _, _, _, _, _, _, _, _] (d - 27) undef) (List.getD [_, _, _, _, _, _, _, _, _, _, _, _, _, _, _, _] (d - 43) undef))) (cond (Nat.ble d 74) (List.getD [_, _, _, _, _, _, _, _, _, _, _, _, _, _, _, _] (d - 59) undef) (cond (Nat.ble d 90) (List.getD [_, _, _, _, _, _, _, _, _, _, _, _, _, _, _, _] (d - 75) undef) (List.getD [_, _, _, _, _, _, _, _, _, _, _, _, _, _, _, _] (d - 91) undef)))) (cond (Nat.ble d 154) (cond (Nat.ble d 122) (List.getD [_, _, _, _, _, _, _, _, _, _, _, _, _, _, _, _] (d - 107) undef) (cond (Nat.ble d 138) (List.getD [_, _, _, _, _, _, _, _, _, _, _, _, _, _, _, _] (d - 123) undef) (List.getD [_, _, _, _, _, _, _, _, _, _, _, _, _, _, _, _] (d - 139) undef))) (cond (Nat.ble d 186) (cond (Nat.ble d 170) (List.getD [_, _, _, _, _, _, _, _, _, _, _, _, _, _, _, _] (d - 155) undef) (List.getD [_, _, _, _, _, _, _, _, _, _, _, _, _, _, _, _] (d - 171) undef)) (cond (Nat.ble d 202) (List.getD [_, _, _, _, _, _, _, _, _, _, _, _, _, _, _, _] (d - 187) undef) (List.getD [_, _, _, _, _, _, _, _, _, _, _, _, _, _, _, _] (d - 203) undef))))) (cond (Nat.ble d 330) (cond (Nat.ble d 266) (cond (Nat.ble d 234) (List.getD [_, _, _, _, _, _, _, _, _, _, _, _, _, _, _, _] (d - 219) undef) (cond (Nat.ble d 250) (List.getD [_, _, _, _, _, _, _, _, _, _, _, _, _, _, _, _] (d - 235) undef) (List.getD [_, _, _, _, _, _, _, _, _, _, _, _, _, _, _, _] (d - 251) undef))) (cond (Nat.ble d 298) (cond (Nat.ble d 282) (List.getD [_, _, _, _, _, _, _, _, _, _, _, _, _, _, _, _] (d - 267) undef) (List.getD [_, _, _, _, _, _, _, _, _, _, _, _, _, _, _, _] (d - 283) undef)) (cond (Nat.ble d 314) (List.getD [_, _, _, _, _, _, _, _, _, _, _, _, _, _, _, _] (d - 299) undef) (List.getD [_, _, _, _, _, _, _, _, _, _, _, _, _, _, _, _] (d - 315) undef)))) (cond (Nat.ble d 378) (cond (Nat.ble d 346) (List.getD [_, _, _, _, _, _, _, _, _, _, _, _, _, _, _, _] (d - 331) undef) (cond (Nat.ble d 362) (List.getD [_, _, _, _, _, _, _, _, _, _, _, _, _, _, _, _] (d - 347) undef) (List.getD [_, _, _, _, _, _, _, _, _, _, _, _, _, _, _, _] (d - 363) undef))) (cond (Nat.ble d 410) (cond (Nat.ble d 394) (List.getD [_, _, _, _, _, _, _, _, _, _, _, _, _, _, _, _] (d - 379) undef) (List.getD [_, _, _, _, _, _, _, _, _, _, _, _, _, _, _, _] (d - 395) undef)) (cond (Nat.ble d 426) (List.getD [_, _, _, _, _, _, _, _, _, _, _, _, _, _, _, _] (d - 411) undef) (List.getD [_, _, _, _, _, _, _, _] (d - 427) undef)))))) (v d)), ⟨rfl, by omega, Or.inr (Or.inr (Or.inr (Or.inl ⟨rfl, _, w1.heap.size, ig, ic, hig9, HEU.out, hDbU, hIgU⟩)))⟩, rfl⟩)
  · skip
    obtain ⟨k0, k1, k2⟩ := hE.cells
    have s0 : wr.cell? ⟨g, 4, none⟩ = some (.iface T4 v4) := hE.src 4 _ rfl
    have q1 := h4.open_
    have q2 := h4.emph
    have hSd : ∀ o, Same wr ((wr.alloc o).drew) := fun o => ((Mods.refl (fun _ => False) wr).alloc o).drew
    go_wp2_with fail
    go_region_law (refine st_room_inl rfl (.tmp 55) (.tmp 60) rfl g 2 5 cap _ (ownsRow_keep hE.row (hSd _) (fun _ _ x => x)) (by omega) (.iface T4 v4) rfl wr.heap.size 1 rfl rfl ((Blk.drew (Blk.newAt _ _ rfl)).cell 0) ?_; intro wB hmB hrB; have hEB := hE.app (hSd _) hmB hrB; obtain ⟨k0', k1', k2'⟩ := hEB.cells)
    all_goals
      go_wp2_with fail
      refine Handed.intro (5 - (4 + 1)) (by omega) (hJ _ _ _ ⟨4 + 1, (fun d => cond (Nat.ble 11 d && Nat.ble d 61) (cond (Nat.ble d 42) (cond (Nat.ble d 26) (List.getD [_, _, _, _, _, _, _, _, _, _, _, undef, _, _, _, _] (d - 11) undef) (List.getD [_, _, _, _, _, _, _, _, _, _, _, _, _, _, _, _] (d - 27) undef)) (cond (Nat.ble d 58) (List.getD [_, _, _, _, _, _, _, _, _, _, _, _, _, _, _, _] (d - 43) undef) (List.getD [_, _, _] (d - 59) undef))) (v d)), ⟨rfl, by omega, Or.inr (Or.inr (Or.inr (Or.inr ⟨rfl, sa, db, ig, ic, hdi, hEB.setD 3, db_setD hEB (db_app hE hdb (hSd _) hmB) _, ig_setD hEB (ig_app hE hig (by omega) (hSd _) hmB) _⟩)))⟩, rfl⟩)
  · obtain ⟨k0, k1, k2⟩ := hE.cells
    have HS : Hid (St4 w wr g cap m1 m2 T0 T2 T4 v0 v2 v4 tt 5) := Lib.hid (Or.inr (Or.inr (Or.inr (Or.inr ⟨rfl, sa, db, ig, ic, hdi, hE, hdb, hig⟩))))
    clear hE hdb hig
    go_wp2_with fail
    go_ret
    exact ⟨rfl, HS.out⟩
end Go.Proofs.YtmmopoofheblbaaGreatDoor

/- parseEmph: tildes beside a word. -/
namespace Go.Proofs.YtmmopoofheblbaaGreatDoor.G
open Go Go.RowKit Go.Proofs

theorem d_no0 {c : UInt8} (h : c.toNat ≠ 126) : ((c.toNat : Int) == 126) = false := beq_eq_false_iff_ne.2 (fun he => h (by omega))

set_option maxRecDepth 100000 in
set_option maxHeartbeats 8000000 in
theorem tilde_call (s : ByteArray) (k n J : Nat) (a b o cl : Bool) (hs : s.size ≤ 1000000) (hk : 0 < k) (hk1 : k - 1 < s.size) (hk9 : k < s.size) (hkn : J < s.size) (hJ : J = k + n) (hn : n = 1 ∨ n = 2) (hrun : ∀ j (h : j < s.size), k ≤ j → j < J → s[j] = 126) (hB : WS s[k - 1] b) (hA : WS s[J] a)
    (hab : (a = false ∧ b = true ∧ o = true ∧ cl = false) ∨ (a = true ∧ b = false ∧ o = false ∧ cl = true)) :
    PieceCall s k 107 (mark (s.extract k J) o cl n) k J := by
  intro bp q W hq
  have w1 : (k : Int) < s.size := by omega
  have w2 : (0 : Int) ≤ k := by omega
  have w3 : IntKind.i64.wrap ((k : Int) + 1) = (k : Int) + 1 := IntWalk.i64_in _ (by omega)
  have w6 : ((k : Int) == 0) = false := beq_eq_false_iff_ne.2 (by omega)
  have w6' : ¬ k = 0 := by omega
  have w7 : (k : Int) ≤ s.size := by omega
  have hsk := hrun k hk9 (Nat.le_refl _) (by omega)
  have HR := Lib.hid hrun
  have hne : s[J].toNat ≠ 126 := by rcases hA with ⟨_, h⟩ | ⟨_, h | h | h⟩ <;> first | (rw [h]; decide) | omega
  have HNE := Lib.hid hne
  have HBE := Lib.hid (before_at s k b hs hk (Nat.le_of_lt hk9) hB)
  have HAF := Lib.hid (after_at s J a hs hkn hA)
  have HB := Lib.hid hB
  have HA := Lib.hid hA
  have hq' : PsAt W bp { q with corner := q.corner } := hq
  have HQ0 := Lib.hid hq'
  have hbl := hq.lt
  have f6 := hq.fr 6
  have k6 := hq.corner
  have HJ := Lib.hid hJ
  clear hrun hne hB hA hq hq' hJ
  go_enter Tryz.func107, Tryz.ntmps107
  go_wp2_with fail
  go_loopg [11] (J - (k + 1)) (fun m v wr => ∃ j : Nat, v = .int .i64 j ∧ m = J - j ∧ k + 1 ≤ j ∧ j ≤ J ∧ W = wr)
  case atStart => exact ⟨k + 1, by simp, rfl, Nat.le_refl _, by have := HJ.out; omega, rfl⟩
  case round =>
    obtain ⟨j, rfl, hm, hj1, hj, rfl⟩ := hrel
    have HM0 := Lib.hid hm
    clear hm
    have v1 : (j : Int) < s.size := by omega
    have v2 : (0 : Int) ≤ j := by omega
    have v3 : IntKind.i64.wrap ((j : Int) + 1) = (j : Int) + 1 := IntWalk.i64_in _ (by omega)
    by_cases hlt : j < J
    · have d1 : ((s[j].toNat : Int) == 126) = true := by rw [HR.out j (by omega) (by omega) hlt]; rfl
      go_wp2_with fail
      go_roundg (J - (j + 1))
      case measure => have := HM0.out; omega
      case rel => exact ⟨j + 1, by simp, rfl, by omega, by omega, rfl⟩
    · have hjJ : j = J := by omega
      subst hjJ
      have d1 : ((s[j].toNat : Int) == 126) = false := d_no0 HNE.out
      have w5 : ¬ ((s.size : Int) ≤ j) := by omega
      have w8 : (j : Int) ≤ s.size := by omega
      have w11 : (k : Int) ≤ j := by omega
      rcases hn with rfl | rfl
      · have w4 : IntKind.i64.wrap ((j : Int) - k) = 1 := by rw [show (j : Int) - k = 1 by have := HJ.out; omega]; exact IntWalk.i64_in _ (by omega)
        have hset : Mods (fun k => k = bp) W (W.setCell ⟨bp, 6, none⟩ (.bool true)) := (Mods.refl (fun k => k = bp) W).setCell (p := ⟨bp, 6, none⟩) (fun _ => rfl) _
        have hps := HQ0.out.set 6 (.bool true) { q with corner := true } rfl (by decide)
        obtain ⟨w1', hw1⟩ : ∃ x, x = W.setCell ⟨bp, 6, none⟩ (.bool true) := ⟨_, rfl⟩
        rw [← hw1] at hset hps
        have HW1 := Lib.hid hw1
        have HM := Lib.hid hset
        have HQ := Lib.hid hps
        clear hset hps hw1
        rcases hab with ⟨rfl, rfl, rfl, rfl⟩ | ⟨rfl, rfl, rfl, rfl⟩
        · go_wp2_with fail
          rw [← HW1.out]
          refine (HBE.out w1').mono ?_
          rintro e w' ⟨rfl, rfl⟩
          go_wp2_with fail
          refine (HAF.out w1').mono ?_
          rintro e w' ⟨rfl, rfl⟩
          go_wp2_with fail
          refine (uniSpace_ws _ _ w1' HA.out).mono ?_
          rintro e w' ⟨rfl, rfl⟩
          go_wp2_with fail
          refine (uniPunct_ws _ _ w1' HA.out).mono ?_
          rintro e w' ⟨rfl, rfl⟩
          go_wp2_with fail
          refine (uniSpace_ws _ _ w1' HB.out).mono ?_
          rintro e w' ⟨rfl, rfl⟩
          go_wp2_with fail
          exact bodyPost_ret (v := .tuple #[.iface (mark (s.extract k j) true false 1).ty (.pointer (some ⟨w1'.heap.size, 0, none⟩)), .int .i64 k, .int .i64 (j : Int), .bool true]) (by simp [results, Tryz.results107, go_sem, mark]) rfl
            ⟨w1'.heap.size, true, rfl, mark_end HM.out HQ.out⟩
        · go_wp2_with fail
          rw [← HW1.out]
          refine (HBE.out w1').mono ?_
          rintro e w' ⟨rfl, rfl⟩
          go_wp2_with fail
          refine (HAF.out w1').mono ?_
          rintro e w' ⟨rfl, rfl⟩
          go_wp2_with fail
          refine (uniSpace_ws _ _ w1' HA.out).mono ?_
          rintro e w' ⟨rfl, rfl⟩
          go_wp2_with fail
          refine (uniSpace_ws _ _ w1' HB.out).mono ?_
          rintro e w' ⟨rfl, rfl⟩
          go_wp2_with fail
          refine (uniPunct_ws _ _ w1' HB.out).mono ?_
          rintro e w' ⟨rfl, rfl⟩
          go_wp2_with fail
          exact bodyPost_ret (v := .tuple #[.iface (mark (s.extract k j) false true 1).ty (.pointer (some ⟨w1'.heap.size, 0, none⟩)), .int .i64 k, .int .i64 (j : Int), .bool true]) (by simp [results, Tryz.results107, go_sem, mark]) rfl
            ⟨w1'.heap.size, true, rfl, mark_end HM.out HQ.out⟩
      · have w4 : IntKind.i64.wrap ((j : Int) - k) = 2 := by rw [show (j : Int) - k = 2 by have := HJ.out; omega]; exact IntWalk.i64_in _ (by omega)
        have HM : Hid (Mods (fun k => k = bp) W W) := Lib.hid (Mods.refl _ _)
        have HQ := HQ0
        rcases hab with ⟨rfl, rfl, rfl, rfl⟩ | ⟨rfl, rfl, rfl, rfl⟩
        · go_wp2_with fail
          refine (HBE.out W).mono ?_
          rintro e w' ⟨rfl, rfl⟩
          go_wp2_with fail
          refine (HAF.out W).mono ?_
          rintro e w' ⟨rfl, rfl⟩
          go_wp2_with fail
          refine (uniSpace_ws _ _ W HA.out).mono ?_
          rintro e w' ⟨rfl, rfl⟩
          go_wp2_with fail
          refine (uniPunct_ws _ _ W HA.out).mono ?_
          rintro e w' ⟨rfl, rfl⟩
          go_wp2_with fail
          refine (uniSpace_ws _ _ W HB.out).mono ?_
          rintro e w' ⟨rfl, rfl⟩
          go_wp2_with fail
          exact bodyPost_ret (v := .tuple #[.iface (mark (s.extract k j) true false 2).ty (.pointer (some ⟨W.heap.size, 0, none⟩)), .int .i64 k, .int .i64 (j : Int), .bool true]) (by simp [results, Tryz.results107, go_sem, mark]) rfl
            ⟨W.heap.size, q.corner, rfl, mark_end HM.out HQ.out⟩
        · go_wp2_with fail
          refine (HBE.out W).mono ?_
          rintro e w' ⟨rfl, rfl⟩
          go_wp2_with fail
          refine (HAF.out W).mono ?_
          rintro e w' ⟨rfl, rfl⟩
          go_wp2_with fail
          refine (uniSpace_ws _ _ W HA.out).mono ?_
          rintro e w' ⟨rfl, rfl⟩
          go_wp2_with fail
          refine (uniSpace_ws _ _ W HB.out).mono ?_
          rintro e w' ⟨rfl, rfl⟩
          go_wp2_with fail
          refine (uniPunct_ws _ _ W HB.out).mono ?_
          rintro e w' ⟨rfl, rfl⟩
          go_wp2_with fail
          exact bodyPost_ret (v := .tuple #[.iface (mark (s.extract k j) false true 2).ty (.pointer (some ⟨W.heap.size, 0, none⟩)), .int .i64 k, .int .i64 (j : Int), .bool true]) (by simp [results, Tryz.results107, go_sem, mark]) rfl
            ⟨W.heap.size, q.corner, rfl, mark_end HM.out HQ.out⟩
end Go.Proofs.YtmmopoofheblbaaGreatDoor.G

/- A text of words with marks between: where its parts lie; FnStruck's plan. -/
namespace Go.Proofs.YtmmopoofheblbaaGreatDoor.G
open Go Go.RowKit Go.Proofs

/-- From place i on the text is L. -/
def FromL (s : ByteArray) (i : Nat) (L : List UInt8) : Prop := s.data.toList.drop i = L
theorem drop_c (s : ByteArray) (i : Nat) (h : i < s.size) : s.data.toList.drop i = s[i] :: s.data.toList.drop (i + 1) := by
  have h' : i < s.data.toList.length := h
  rw [List.drop_eq_getElem_cons h']
  rfl
theorem FromL.app {s : ByteArray} {i : Nat} {x y : List UInt8} (h : FromL s i (x ++ y)) : FromL s (i + x.length) y := by
  unfold FromL at *
  have h1 := congrArg (List.drop x.length) h
  rw [List.drop_drop, List.drop_left] at h1
  exact h1
theorem FromL.tl {s : ByteArray} {i : Nat} {c : UInt8} {r : List UInt8} (h : FromL s i (c :: r)) : FromL s (i + 1) r := FromL.app (x := [c]) h
theorem FromL.lt {s : ByteArray} {i : Nat} {c : UInt8} {r : List UInt8} (h : FromL s i (c :: r)) : i < s.size := by
  unfold FromL at h
  by_cases hlt : i < s.size
  · exact hlt
  · rw [List.drop_eq_nil_of_le (show s.data.toList.length ≤ i by have e : s.data.toList.length = s.size := rfl; omega)] at h
    cases h
theorem FromL.hd {s : ByteArray} {i : Nat} {c : UInt8} {r : List UInt8} (h : FromL s i (c :: r)) (hi : i < s.size) : s[i] = c := by
  unfold FromL at h
  rw [drop_c s i hi] at h
  exact (List.cons.inj h).1
theorem FromL.mem {s : ByteArray} {i : Nat} {x y : List UInt8} (h : FromL s i (x ++ y)) (j : Nat) (hj : j < s.size) (h1 : i ≤ j) (h2 : j < i + x.length) : s[j] ∈ x := by
  have hg : s.data.toList[j]? = some s[j] := by
    have h' : j < s.data.toList.length := hj
    rw [List.getElem?_eq_getElem h']
    rfl
  have hd : (s.data.toList.drop i)[j - i]? = s.data.toList[j]? := by rw [List.getElem?_drop, show i + (j - i) = j by omega]
  rw [show s.data.toList.drop i = _ from h, List.getElem?_append_left (by omega), hg] at hd
  exact List.mem_of_getElem? hd
theorem FromL.ext {s : ByteArray} {i : Nat} {x y : List UInt8} (h : FromL s i (x ++ y)) (j : Nat) (hj : j = i + x.length) : s.extract i j = strL x := by
  subst hj
  apply ByteArray.ext
  apply Array.toList_inj.1
  rw [Lib.extract_data, show s.data.toList.drop i = _ from h, show i + x.length - i = x.length by omega, List.take_left']
  · simp [strL]
  · rfl

theorem wd_dull (c : UInt8) (h : Wd c) : dull c = true := by
  have : ∀ n : Fin 256, ((48 ≤ n.1 ∧ n.1 ≤ 57) ∨ (65 ≤ n.1 ∧ n.1 ≤ 90) ∨ (97 ≤ n.1 ∧ n.1 ≤ 122)) → dull (UInt8.ofNat n.1) = true := by decide +kernel
  have h2 := this ⟨c.toNat, c.toNat_lt⟩ h
  simpa using h2

/-- A word: letters and digits. -/
structure Word (x : ByteArray) : Prop where
  pos : 0 < x.size
  le : x.size ≤ 20
  all : ∀ c ∈ x.data.toList, Wd c

/-- Idle signs are passed. -/
theorem plan_skip {o : Op} {s : ByteArray} {e : Nat} {r : List Pc} : ∀ (n k : Nat), k + n ≤ s.size → (∀ j (h : j < s.size), k ≤ j → j < k + n → Idle o s[j]) → Plan o s (k + n) e r → Plan o s k e r
  | 0, k, _, _, h => h
  | n + 1, k, hn, hd, h => Plan.dull (by omega) (hd k (by omega) (Nat.le_refl _) (by omega)) (plan_skip n (k + 1) (by omega) (fun j hj h1 h2 => hd j hj (by omega) (by omega)) (by rw [show k + 1 + n = k + (n + 1) by omega]; exact h))

def runL (n : Nat) : List UInt8 := List.replicate n 126
def struckL (a b c : ByteArray) (n : Nat) : List UInt8 := a.data.toList ++ 32 :: (runL n ++ (b.data.toList ++ (runL n ++ 32 :: c.data.toList)))
def struckT (a b c : ByteArray) (n : Nat) : ByteArray := strL (struckL a b c n)

theorem last_mem {s : ByteArray} {i : Nat} {x y : List UInt8} (h : FromL s i (x ++ y)) (hx : 0 < x.length) (hs : i + x.length - 1 < s.size) : s[i + x.length - 1] ∈ x := h.mem _ hs (by omega) (by omega)

theorem struck_plan (a b c : ByteArray) (n : Nat) (o : Op) (ho : o.strike = true) (ha : Word a) (hb : Word b) (hc : Word c) (hn : n = 1 ∨ n = 2) :
    Plan o (struckT a b c n) 0 0 [.plain (strL (a.data.toList ++ [32])), mark (strL (runL n)) true false n, .plain b, mark (strL (runL n)) false true n, .plain (strL (32 :: c.data.toList))] := by
  generalize hs : struckT a b c n = s
  have hlist : s.data.toList = struckL a b c n := by rw [← hs]; simp [struckT, strL]
  have ea : a.data.toList.length = a.size := rfl
  have eb : b.data.toList.length = b.size := rfl
  have ec : c.data.toList.length = c.size := rfl
  have er : (runL n).length = n := by simp [runL]
  have hsize : s.size = a.size + 1 + n + b.size + n + 1 + c.size := by
    have e : s.size = s.data.toList.length := rfl
    rw [e, hlist]
    simp only [struckL, List.length_append, List.length_cons, er]
    omega
  have h0 : FromL s 0 ((a.data.toList ++ [32]) ++ (runL n ++ (b.data.toList ++ (runL n ++ 32 :: c.data.toList)))) := by
    unfold FromL
    rw [List.drop_zero, hlist]
    simp [struckL]
  have hA := ha.pos
  have hA2 := ha.le
  have hB := hb.pos
  have hB2 := hb.le
  have hC := hc.pos
  have hC2 := hc.le
  have l1 : (a.data.toList ++ [32]).length = a.size + 1 := by simp [ea]
  have h1 : FromL s (a.size + 1) (runL n ++ (b.data.toList ++ (runL n ++ 32 :: c.data.toList))) := by have := h0.app; rw [l1, Nat.zero_add] at this; exact this
  have h2 : FromL s (a.size + 1 + n) (b.data.toList ++ (runL n ++ 32 :: c.data.toList)) := by have := h1.app; rw [er] at this; exact this
  have h3 : FromL s (a.size + 1 + n + b.size) (runL n ++ 32 :: c.data.toList) := by have := h2.app; rw [eb] at this; exact this
  have h4 : FromL s (a.size + 1 + n + b.size + n) (32 :: c.data.toList) := by have := h3.app; rw [er] at this; exact this
  have hrun : ∀ {i : Nat} {y : List UInt8}, FromL s i (runL n ++ y) → ∀ j (h : j < s.size), i ≤ j → j < i + n → s[j] = 126 := by
    intro i y h j hj x1 x2
    have := h.mem j hj x1 (by rw [er]; exact x2)
    exact (List.mem_replicate.1 this).2
  -- the last text
  have hfin : Plan o s (a.size + 1 + n + b.size + n) (a.size + 1 + n + b.size + n) [.plain (strL (32 :: c.data.toList))] := by
    have hf := Plan.fin (o := o) (s := s) (a.size + 1 + n + b.size + n)
    have hex : s.extract (a.size + 1 + n + b.size + n) s.size = strL (32 :: c.data.toList) := by
      have h5 : FromL s (a.size + 1 + n + b.size + n) ((32 :: c.data.toList) ++ []) := by rw [List.append_nil]; exact h4
      exact h5.ext s.size (by rw [List.length_cons]; omega)
    rw [if_pos (by omega), hex] at hf
    have h5 : FromL s (a.size + 1 + n + b.size + n) ((32 :: c.data.toList) ++ []) := by rw [List.append_nil]; exact h4
    refine plan_skip (1 + c.size) _ (by omega) (fun j hj x1 x2 => ?_) (by rw [show a.size + 1 + n + b.size + n + (1 + c.size) = s.size by omega]; exact hf)
    have := h5.mem j hj x1 (by rw [List.length_cons]; omega)
    rcases List.mem_cons.1 this with e | e
    · exact Or.inl (by rw [e]; decide)
    · exact Or.inl (wd_dull _ (hc.all _ e))
  -- the closing mark
  have hclose : Plan o s (a.size + 1 + n + b.size) (a.size + 1 + n) [.plain b, mark (strL (runL n)) false true n, .plain (strL (32 :: c.data.toList))] := by
    have hlast : s[a.size + 1 + n + b.size - 1]'(by omega) ∈ b.data.toList := by
      have := last_mem h2 (by omega) (by omega)
      simpa only [eb] using this
    have hcall := tilde_call s (a.size + 1 + n + b.size) n (a.size + 1 + n + b.size + n) true false false true (by omega) (by omega) (by omega) (by omega) (by omega) rfl hn (fun j hj x1 x2 => hrun h3 j hj x1 x2) (Or.inr ⟨rfl, hb.all _ hlast⟩) (Or.inl ⟨rfl, h4.hd h4.lt⟩) (Or.inr ⟨rfl, rfl, rfl, rfl⟩)
    rw [h3.ext _ (by rw [er])] at hcall
    have hp := Plan.piece (o := o) (s := s) (k := a.size + 1 + n + b.size) (e := a.size + 1 + n) (by omega) 107 (Or.inr (Or.inr (Or.inr (Or.inl ⟨hrun h3 _ (by omega) (Nat.le_refl _) (by omega), rfl, ho⟩)))) _ _ _ (by omega) (Nat.le_refl _) (by omega) (by omega) hcall (mark_ok _ _ _ _) hfin
    rw [if_pos (by omega), h2.ext _ (by rw [eb])] at hp
    have hbb : strL b.data.toList = b := by apply ByteArray.ext; simp [strL]
    rw [hbb] at hp
    exact hp
  have hmid : Plan o s (a.size + 1 + n) (a.size + 1 + n) [.plain b, mark (strL (runL n)) false true n, .plain (strL (32 :: c.data.toList))] := by
    refine plan_skip b.size _ (by omega) (fun j hj x1 x2 => ?_) hclose
    exact Or.inl (wd_dull _ (hb.all _ (h2.mem j hj x1 (by rw [eb]; exact x2))))
  have hopen : Plan o s (a.size + 1) 0 [.plain (strL (a.data.toList ++ [32])), mark (strL (runL n)) true false n, .plain b, mark (strL (runL n)) false true n, .plain (strL (32 :: c.data.toList))] := by
    have hbefore : s[a.size + 1 - 1]'(by omega) = 32 := by
      have h5 : FromL s 0 (a.data.toList ++ (32 :: (runL n ++ (b.data.toList ++ (runL n ++ 32 :: c.data.toList))))) := by
        have := h0
        simpa using this
      have h6 := h5.app
      rw [Nat.zero_add, ea] at h6
      have h7 := h6.hd h6.lt
      simpa only [Nat.add_sub_cancel] using h7
    have hafter : s[a.size + 1 + n]'(by omega) ∈ b.data.toList := h2.mem _ (by omega) (Nat.le_refl _) (by omega)
    have hcall := tilde_call s (a.size + 1) n (a.size + 1 + n) false true true false (by omega) (by omega) (by omega) (by omega) (by omega) rfl hn (fun j hj x1 x2 => hrun h1 j hj x1 x2) (Or.inl ⟨rfl, hbefore⟩) (Or.inr ⟨rfl, hb.all _ hafter⟩) (Or.inl ⟨rfl, rfl, rfl, rfl⟩)
    rw [h1.ext _ (by rw [er])] at hcall
    have hp := Plan.piece (o := o) (s := s) (k := a.size + 1) (e := 0) (by omega) 107 (Or.inr (Or.inr (Or.inr (Or.inl ⟨hrun h1 _ (by omega) (Nat.le_refl _) (by omega), rfl, ho⟩)))) _ _ _ (by omega) (Nat.le_refl _) (by omega) (by omega) hcall (mark_ok _ _ _ _) hmid
    rw [if_pos (by omega), h0.ext _ (by rw [l1, Nat.zero_add])] at hp
    exact hp
  refine plan_skip (a.size + 1) 0 (by omega) (fun j hj x1 x2 => ?_) (by rw [Nat.zero_add]; exact hopen)
  have := h0.mem j hj x1 (by rw [l1]; exact x2)
  rcases List.mem_append.1 this with e | e
  · exact Or.inl (wd_dull _ (ha.all _ e))
  · have e2 : s[j] = 32 := by simpa using e
    exact Or.inl (by rw [e2]; decide)
end Go.Proofs.YtmmopoofheblbaaGreatDoor.G

/- closeBlock whatever builder is on top, over the contract of its build; the parent holds what was built. -/
namespace Go.Proofs.YtmmopoofheblbaaGreatDoor
open Go Go.RowKit Go.Proofs

/-- What building the top block leaves: the state (with the same stack), the stack's row, the parent's row, and X of what was built. -/
structure Built (w wA : World) (bp g n cap ni : Nat) (p : PSt) (l li : List Value) (inner : Value) (SA : Nat → Prop) (X : World → Value → Prop) (v : Value) (p' : PSt) : Prop where
  mods : Mods SA w wA
  at_ : PsAt wA bp p'
  stack : p'.stack = p.stack
  row : wA.ownsRow 0 239 4 (.slice (some ⟨g, 0, none⟩) n cap) n l
  inn : wA.ownsRow 0 91 1 inner ni li
  x : X wA v

/-- What closing it leaves. -/
structure GenClosed (w w' : World) (bp g n cap ni : Nat) (p' : PSt) (l li : List Value) (c inner : Value) (sp ep : Int) (SA : Nat → Prop) (X : World → Value → Prop) (TB : Nat) (v : Value) : Prop where
  mods : Mods (fun k => SA k ∨ k = bp ∨ k = g ∨ inner.ownBlock = some k) w w'
  ex : ∃ ig ic, PsAt w' bp { p' with stack := .slice (some ⟨g, 0, none⟩) (n + 1) cap } ∧
    w'.ownsRow 0 239 4 (.slice (some ⟨g, 0, none⟩) (n + 1) cap) (n + 1) (l ++ [c, .slice (some ⟨ig, 0, none⟩) (ni + 1) ic, .int .i64 sp, .int .i64 ep]) ∧
    w'.ownsRow 0 91 1 (.slice (some ⟨ig, 0, none⟩) (ni + 1) ic) (ni + 1) (li ++ [.iface TB v]) ∧ (inner.ownBlock = some ig ∨ w.heap.size ≤ ig)
  x : X w' v

set_option maxRecDepth 100000 in
set_option maxHeartbeats 4000000 in
theorem close_gen (bp g n cap ni : Nat) (p : PSt) (l li : List Value) (c inner i : Value) (T fb TB : Nat) (a : Option Addr) (sp ep sl el : Int) (SA : Nat → Prop) (X : World → Value → Prop) (w : World) (hp : PsAt w bp p) (hst : p.stack = .slice (some ⟨g, 0, none⟩) (n + 1 + 1) cap) (hn : n ≤ 100)
    (hown : w.ownsRow 0 239 4 (.slice (some ⟨g, 0, none⟩) (n + 1 + 1) cap) (n + 1 + 1) ((l ++ [c, inner, .int .i64 sp, .int .i64 ep]) ++ [.iface T (.pointer a), i, .int .i64 sl, .int .i64 el]))
    (_hin : w.ownsRow 0 91 1 inner ni li) (hni : ni ≤ 100000)
    (hM : ∀ (k : Nat) (w : World), (method (k + 1) T (.pointer a) "pub-paratext/pub/rscmarkdown.build").run Tryz.prog w = .ok (fb, .pointer a) w) (hTB : TB ≠ 123)
    (hF : ∀ (args : Array Value) (w : World), (callFunc fb args).run Tryz.prog w = .ok (.enter fb args) w)
    (hB : ∀ W, Same w W → Calls Tryz.prog fb #[.pointer a, .iface 160 (.pointer (some ⟨bp, 0, none⟩))] W fun e wA => ∃ bv p', e = .returned (.iface TB (.pointer bv)) ∧
      Built W wA bp g (n + 1 + 1) cap ni p ((l ++ [c, inner, .int .i64 sp, .int .i64 ep]) ++ [.iface T (.pointer a), i, .int .i64 sl, .int .i64 el]) li inner SA X (.pointer bv) p')
    (hX : ∀ W W' v, (∃ q, PsAt W bp q) → (∃ cur, Blk W g cur 239) → X W v → Mods (fun k => k = bp ∨ k = g ∨ inner.ownBlock = some k) W W' → X W' v) :
    Calls Tryz.prog 123 #[.pointer (some ⟨bp, 0, none⟩)] w fun e w' => ∃ bv p', e = .returned (.iface TB (.pointer bv)) ∧ p'.stack = p.stack ∧ GenClosed w w' bp g n cap ni p' l li c inner sp ep SA X TB (.pointer bv) := by
  obtain ⟨c0, c1, c2, c3, cf, cl⟩ := row_cells hown
  have k4 := hp.stack
  rw [hst] at k4
  have hbl := hp.lt
  have w1 : IntKind.i64.wrap ((n : Int) + 1) = (n : Int) + 1 := IntWalk.i64_in _ (by omega)
  have w2 : (0 : Int) ≤ (n : Int) + 1 := by omega
  have w3 : (n : Int) + 1 < (n : Int) + 1 + 1 := by omega
  have w4 : ((n : Int) + 1).toNat = n + 1 := by omega
  have hE := eql_builder_nil
  have HX := Lib.hid hX
  clear cf hX
  go_enter Tryz.func123, Tryz.ntmps123
  go_wp2_with fail
  go_quiet (fail)
  go_wp2_with fail
  have hD : Same w (w.drewN nq) := (Mods.refl _ w).drewN nq
  generalize hW : (w.drewN nq : World) = W at *
  clear hW
  have hBW := hB W hD
  clear hB
  refine hBW.mono ?_
  rintro e wA ⟨bv, p', rfl, hPB⟩
  obtain ⟨hmA, hpA, hstA, hownA, hinA, hxA⟩ := hPB
  clear c0 c1 c2 c3 k4 hbl
  have k4 := hpA.stack
  have f4 := hpA.fr 4
  have hbl := hpA.lt
  have hL2 := fun X v w => as_List_no TB X v w hTB
  have HST := Lib.hid hstA
  rw [hstA, hst] at k4
  have hcap : n + 1 + 1 ≤ cap := by
    rcases hownA.2 with ⟨h, _⟩ | ⟨_, _, _, h, _, _, hc, _⟩
    · cases h
    · cases h; exact hc
  have w5 : (n : Int) + 1 ≤ cap := by omega
  have w6 : IntKind.i64.wrap (n : Int) = n := IntWalk.i64_in _ (by omega)
  have w7 : (0 : Int) < (n : Int) + 1 := by omega
  have w8 : (n : Int) < (n : Int) + 1 := by omega
  have w9 : (0 : Int) ≤ (n : Int) := by omega
  clear hE hM hF hstA
  go_wp2_with fail
  go_region
  go_wp2_with fail
  generalize hX : ((wA.setCell ⟨bp, 4, none⟩ (.slice (some ⟨g, 0, none⟩) (n + 1) cap)).drew : World) = Y
  have hmX : Mods (fun k => k = bp) wA Y := by subst hX; exact ((Mods.refl (fun k => k = bp) wA).setCell (p := ⟨bp, 4, none⟩) (fun _ => rfl) _).drew
  have hpX : PsAt Y bp { p' with stack := .slice (some ⟨g, 0, none⟩) (n + 1) cap } := by
    subst hX
    exact PsAt.drew (hpA.set 4 _ _ rfl (by decide))
  clear hX
  have hownX := ownsRow_keep hownA hmX (fun k hk x => own_ne_ps hownA hpA (by decide) (by rw [← x]; exact hk))
  have hinX := ownsRow_keep hinA hmX (fun k hk x => own_ne_ps hinA hpA (by decide) (by rw [← x]; exact hk))
  have hownP := ownsRow_pop hownX rfl
  obtain ⟨d0, d1, d2, d3, df, dl⟩ := row_cells hownP
  clear k4 f4 hbl
  have k4 := hpX.stack
  have hbl := hpX.lt
  go_quiet (fail)
  go_wp2_with (at_builtin; refine ap_blk rfl (.tmp 106) (.tmp 108) rfl inner ni li rfl ((ownsRow_keep hinX ((Mods.refl (fun _ => False) Y).drewN nq) (fun _ _ x => x)).alloc _) Y.heap.size 1 _ (.pointer bv) rfl ((Blk.newAt _ _ rfl).cell 0) (by omega) ?_)
  intro ig ic wB hinB hgrow hloc
  generalize hZ : ((Y.drewN nq).alloc _ : World) = Z at *
  have hmZ : Same Y Z := by subst hZ; exact ((Mods.refl _ Y).drewN nq).alloc _
  have hZs : Z.heap.size = Y.heap.size + 1 := by subst hZ; simp
  clear hZ
  have hmB := grown_mods hgrow
  have hinZ := ownsRow_keep hinX hmZ (fun _ _ x => x)
  have hpB := (hpX.same hmZ).keep hmB (own_ne_ps hinZ (hpX.same hmZ) (by decide))
  have hownB := ownsRow_keep (ownsRow_keep hownP hmZ (fun _ _ x => x)) hmB (fun k hk => own_ne_row hinZ (ownsRow_keep hownP hmZ (fun _ _ x => x)) hk (by decide))
  obtain ⟨q0, q1, q2, q3, qf, ql⟩ := row_cells hownB
  have qf1 := qf (n * 4 + 1)
  clear qf df d0 d1 d2 d3
  go_wp2
  go_ret
  have hgbp : g ≠ bp := fun h => own_ne_ps hownB hpB (by decide) (by rw [h]; rfl)
  have hmF : Mods (fun k => k = g) wB (wB.setCell ⟨g, n * 4 + 1, none⟩ (.slice (some ⟨ig, 0, none⟩) (ni + 1) ic)) := (Mods.refl (fun k => k = g) wB).setCell (p := ⟨g, n * 4 + 1, none⟩) (fun _ => rfl) _
  have hlen : l.length = n * 4 := by have := hownB.1; simp at this; omega
  have hgrow4 : Mods (fun k => k = bp ∨ k = g ∨ inner.ownBlock = some k) wA (wB.setCell ⟨g, n * 4 + 1, none⟩ (.slice (some ⟨ig, 0, none⟩) (ni + 1) ic)) := by
    have m1 := hmX.mono (S' := fun k => k = bp ∨ k = g ∨ inner.ownBlock = some k) (fun _ _ h => Or.inl h)
    have m2 := m1.then hmZ (fun _ _ h => absurd h (fun x => x))
    have m3 := m2.then hmB (fun _ _ h => Or.inr (Or.inr h))
    exact m3.then hmF (fun _ _ h => Or.inr (Or.inl h))
  refine ⟨bv, p', rfl, HST.out, ?_, ⟨ig, ic, hpB.set_other (a := ⟨g, n * 4 + 1, none⟩) hgbp _, row_in hlen rfl hownB, ?_, ?_⟩, ?_⟩
  · exact ((hD.mono (S' := fun k => SA k ∨ k = bp ∨ k = g ∨ inner.ownBlock = some k) (fun _ _ h => absurd h (fun x => x))).then hmA (fun _ _ h => Or.inl h)).then hgrow4 (fun _ _ h => Or.inr h)
  · exact ownsRow_keep hinB hmF (fun k hk he => own_ne_row hinB hownB (g := g) rfl (by decide) (by rw [← he]; exact hk))
  · rcases hloc with h | h
    · exact Or.inl h
    · right
      have h1 := hD.size
      have h2 := hmA.size
      have h3 := hmX.size
      have h4 := hmZ.size
      omega
  · obtain ⟨gx, _, he, ⟨cur, hcur⟩, _, _⟩ := ownsRow_form hownA (by omega)
    cases he
    exact HX.out wA _ _ ⟨p', hpA⟩ ⟨cur, hcur⟩ hxA hgrow4
end Go.Proofs.YtmmopoofheblbaaGreatDoor

/- A text that is read line by line; the parser's loop over it, whatever the lines do. -/
namespace Go.Proofs.YtmmopoofheblbaaGreatDoor
open Go Go.RowKit Go.Proofs

/-- rest j is what is left of a text when j of its lines have been read. -/
structure Feed (rest : Nat → ByteArray) (ls : List ByteArray) : Prop where
  done : rest ls.length = ⟨#[]⟩
  step : ∀ j l, ls[j]? = some l → (rest j).data.toList = l.data.toList ++ 10 :: (rest (j + 1)).data.toList ∨ (rest j = l ∧ 0 < l.size ∧ rest (j + 1) = ⟨#[]⟩)
  no10 : ∀ l ∈ ls, ∀ i (hi : i < l.size), l[i] ≠ 10
  no13 : ∀ j i (hi : i < (rest j).size), (rest j)[i] ≠ 13
  no0 : ∀ i (hi : i < (rest 0).size), (rest 0)[i] ≠ 0
  small : ∀ j, (rest j).size ≤ 900000
  count : ls.length ≤ 900000

theorem cut_lt {J l B : ByteArray} (h : J.data.toList = l.data.toList ++ 10 :: B.data.toList) : J.size = l.size + 1 + B.size := by
  rw [size_list, h, List.length_append, List.length_cons, size_list, size_list]; omega
theorem cut_idx {J l B : ByteArray} (h : J.data.toList = l.data.toList ++ 10 :: B.data.toList) (h10 : ∀ i (hi : i < l.size), l[i] ≠ 10) : idx1 J 10 = (l.size : Int) := by
  have hsz := cut_lt h
  have hlt : l.size < J.size := by omega
  have hk : J[l.size] = 10 := by
    have hg := list_get hlt
    rw [h, List.getElem?_append_right (by rw [← size_list]; exact Nat.le_refl _), ← size_list, Nat.sub_self] at hg
    simpa using hg.symm
  have hf : fst1 J 10 0 = l.size := by
    refine fst1_at _ 10 l.size hlt hk _ 0 rfl (Nat.zero_le _) (fun j hj _ hjl => ?_)
    have hg := list_get hj
    rw [h, List.getElem?_append_left (by rw [← size_list]; exact hjl), list_get hjl] at hg
    rw [← Option.some.inj hg]
    exact h10 j hjl
  unfold idx1
  rw [hf, if_pos hlt]
theorem cut_first {J l B : ByteArray} (h : J.data.toList = l.data.toList ++ 10 :: B.data.toList) : J.extract 0 l.size = l := by
  apply ByteArray.ext
  apply Array.ext'
  rw [Lib.extract_data, h, List.drop_zero, Nat.sub_zero, size_list, List.take_left']
  rfl
theorem cut_rest {J l B : ByteArray} (h : J.data.toList = l.data.toList ++ 10 :: B.data.toList) : J.extract (l.size + 1) J.size = B := by
  have hsz := cut_lt h
  apply ByteArray.ext
  apply Array.ext'
  rw [Lib.extract_data, h]
  have h1 : (l.data.toList ++ 10 :: B.data.toList).drop (l.size + 1) = B.data.toList := by
    rw [size_list, ← List.drop_drop, List.drop_left']
    · rfl
    · rfl
  rw [h1, hsz, show l.size + 1 + B.size - (l.size + 1) = B.size by omega, size_list, List.take_length]

theorem empty_of {s : ByteArray} (h : s.size = 0) : s = ⟨#[]⟩ := by
  apply ByteArray.ext_getElem
  · exact h
  · intro i h1 h2; omega

def rootV' (v : Option Addr) : Value := .iface 172 (.pointer v)

/-- What the loop over the lines, the closing of the blocks and the loop over the texts are asked: R j: behind j lines; D tx i: closed, and the inlines of i of the n texts in tx read. -/
structure Reads (w : World) (bp pp : Nat) (ls : List ByteArray) (R : Nat → World → Prop) (D : Value → Nat → World → Prop) (n : Nat) : Prop where
  line : ∀ j W, R j W → W.cell? ⟨bp, 3, none⟩ = some (.int .i64 (j : Nat)) ∧ W.frozen? ⟨bp, 3, none⟩ = false ∧ bp < W.heap.size
  same : ∀ j W W', R j W → Same W W' → R j W'
  first : ∀ W g cap v, Same w W → w.heap.size ≤ g → PsAt W bp { p0 pp with stack := .slice (some ⟨g, 0, none⟩) 1 cap } →
    W.ownsRow 0 239 4 (.slice (some ⟨g, 0, none⟩) 1 cap) 1 [rootV' v, .slice none 0 0, .int .i64 0, .int .i64 0] → R 0 W
  step : ∀ j l nl W, ls[j]? = some l → R j W → Calls Tryz.prog 89 #[.pointer (some ⟨bp, 0, none⟩), LV 0 l nl] (W.setCell ⟨bp, 3, none⟩ (.int .i64 ((j : Int) + 1))) fun e w2 => e = .returned (.tuple #[]) ∧ R (j + 1) w2
  close : ∀ W, R ls.length W → Calls Tryz.prog 90 #[.pointer (some ⟨bp, 0, none⟩), .int .i64 0] W fun e w' => e = .returned (.tuple #[]) ∧ ∃ a c, w'.cell? ⟨bp, 11, none⟩ = some (.slice a n c) ∧ D (.slice a n c) 0 w'
  texts : ∀ a c i W, i < n → D (.slice a n c) i W → ∃ g tb s, a = some ⟨g, 0, none⟩ ∧ n ≤ c ∧ W.cell? ⟨g, i, none⟩ = some (.pointer (some ⟨tb, 0, none⟩)) ∧ W.cell? ⟨tb, 3, none⟩ = some (.string s) ∧
      Calls Tryz.prog 83 #[.pointer (some ⟨bp, 0, none⟩), .string s] W fun e w' => ∃ a2 n2 c2, e = .returned (.slice a2 n2 c2) ∧ (∃ u, w'.cell? ⟨tb, 2, none⟩ = some u ∧ w'.frozen? ⟨tb, 2, none⟩ = false ∧ tb < w'.heap.size) ∧ D (.slice a n c) (i + 1) (w'.setCell ⟨tb, 2, none⟩ (.slice a2 n2 c2))
  sameD : ∀ tx i W W', D tx i W → Same W W' → D tx i W'
  fin : ∀ tx W, D tx n W → (∃ rk, W.cell? ⟨bp, 1, none⟩ = some (.pointer (some ⟨rk, 0, none⟩))) ∧ (∃ c, W.cell? ⟨bp, 6, none⟩ = some (.bool c)) ∧ W.cell? ⟨pp, 2, none⟩ = some (.bool false) ∧ W.cell? ⟨bp, 0, none⟩ = some (.pointer (some ⟨pp, 0, none⟩))

set_option maxRecDepth 100000 in
set_option maxHeartbeats 8000000 in
theorem parse_gen (pp : Nat) (rest : Nat → ByteArray) (ls : List ByteArray) (w : World) (hF : Feed rest ls) (R : Nat → World → Prop) (D : Value → Nat → World → Prop) (n : Nat) (hn : n ≤ 100000) (hR : Reads w w.heap.size pp ls R D n) :
    Calls Tryz.prog 68 #[.pointer (some ⟨pp, 0, none⟩), .string (rest 0)] w fun e w' => ∃ rk c, e = .returned (.tuple #[.pointer (some ⟨rk, 0, none⟩), .bool c]) ∧ w'.cell? ⟨w.heap.size, 1, none⟩ = some (.pointer (some ⟨rk, 0, none⟩)) ∧ ∃ tx, D tx n w' := by
  have hs6 : (rest 0).size ≤ 1000000 := by have := hF.small 0; omega
  have i0 := idx1_none hF.no0
  go_enter Tryz.func68, Tryz.ntmps68
  go_wp2_with fail
  refine (zzContains_any (rest 0) 0 _ hs6).mono ?_
  rintro e w' ⟨rfl, rfl⟩
  rw [i0]
  generalize hW : (World.alloc _ _ : World) = W
  have hm0 : Same w W := by subst hW; exact (Mods.refl _ w).alloc _
  have hp0 : PsAt W w.heap.size { p0 pp with depth := 0 } := by
    subst hW
    exact ⟨⟨tail0, rfl⟩, Blk.newAt _ _ rfl⟩
  clear hW
  generalize hbp : w.heap.size = bp at *
  have k5 := hp0.depth
  have f5 := hp0.fr 5
  have hbl := hp0.lt
  go_wp2_with fail
  generalize hX : (World.alloc (World.setCell _ _ _) _ : World) = X
  have hmX : Same w X := by
    subst hX
    exact (hm0.setCell (p := ⟨bp, 5, none⟩) (fun h => absurd h (Nat.not_lt.2 (Nat.le_of_eq hbp))) _).alloc _
  have hpX : PsAt X bp (p0 pp) := by
    subst hX
    exact PsAt.alloc (hp0.set 5 (.int .i64 (-1)) (p0 pp) rfl (by decide)) _
  clear hX
  refine (addBlock_any bp 0 0 none (p0 pp) _ (.pointer (some ⟨W.heap.size, 0, none⟩)) [] (-1) X hpX rfl (by omega) rfl rfl ⟨rfl, Or.inl ⟨rfl, rfl⟩⟩ (fun g h => by cases h) rfl).mono ?_
  rintro e w1 ⟨rfl, hm1, g, cap, hp1, hown1, hgl1⟩
  have hmw1 : Same w w1 := hmX.then hm1 (fun b hb h => by
    rcases h with h | h
    · omega
    · cases h)
  have hXs := hmX.size
  have hgw : w.heap.size ≤ g := by
    by_cases h : g < X.heap.size
    · cases hgl1 h
    · omega
  have hR0 : R 0 w1 := hR.first w1 g cap (some ⟨W.heap.size, 0, none⟩) hmw1 hgw hp1 hown1
  clear k5 f5 hbl hm0 hp0 hmX hpX hm1 hp1 hown1 hgl1 hmw1 hXs hgw
  go_wp2_with fail
  go_loopg [1] ls.length (fun k v1 wr => ∃ j : Nat, k = ls.length - j ∧ j ≤ ls.length ∧ v1 = .string (rest j) ∧ R j wr)
  case atStart => exact ⟨0, rfl, Nat.zero_le _, rfl, hR0⟩
  case round =>
    clear hR0
    obtain ⟨j, hk, hj, rfl, hRj⟩ := hrel
    have HK := Lib.hid hk
    clear hk
    by_cases hlt : j < ls.length
    · obtain ⟨l, hl⟩ : ∃ l, ls[j]? = some l := ⟨_, List.getElem?_eq_getElem hlt⟩
      obtain ⟨k3, f3, l3⟩ := hR.line j wr hRj
      have i13 := idx1_none (hF.no13 j)
      have hlmem : l ∈ ls := List.mem_of_getElem? hl
      have h10l := hF.no10 l hlmem
      have hs7 : (rest j).size ≤ 1000000 := by have := hF.small j; omega
      have w3 : IntKind.i64.wrap ((j : Int) + 1) = (j : Int) + 1 := IntWalk.i64_in _ (by have := hF.count; omega)
      have STEP := Lib.hid (fun nl wx (hx : Same wr wx) => hR.step j l nl wx hl (hR.same j wr wx hRj hx))
      rcases hF.step j l hl with hst | ⟨hst, hp, hr⟩
      · have i10 := cut_idx hst h10l
        have hx1 := cut_first hst
        have hx2 := cut_rest hst
        have hsz := cut_lt hst
        generalize hJ : rest j = J at *
        have hp2 : 0 < J.size := by omega
        have e0 : J.toList.isEmpty = false := bs_ne hp2
        have e0' : (!J.toList.isEmpty) = true := by rw [e0]; rfl
        have v1 : (l.size : Int) + 1 ≤ J.size := by omega
        have v2 : (l.size : Int) ≤ J.size := by omega
        have v3 : ¬ ((l.size : Int) < 0) := by omega
        have v4 : (0 : Int) ≤ l.size := by omega
        have v5 : IntKind.i64.wrap ((l.size : Int) + 1) = (l.size : Int) + 1 := IntWalk.i64_in _ (by omega)
        have v6 : ((l.size : Int) + 1).toNat = l.size + 1 := by omega
        have v7 : (0 : Int) ≤ (l.size : Int) + 1 := by omega
        have HX2 := Lib.hid hx2
        clear hRj hlmem h10l hJ hsz hst hx2
        go_wp2_with fail
        refine (zzIndex_any J 10 _ hs7).mono ?_
        rintro e w' ⟨rfl, rfl⟩
        rw [i10]
        go_wp2_with fail
        refine (zzIndex_any J 13 _ hs7).mono ?_
        rintro e w' ⟨rfl, rfl⟩
        rw [i13]
        go_wp2_with fail
        first | go_quiet (fail) | skip
        go_wp2_with fail
        refine (STEP.out 10 _ ((Mods.refl _ wr).drewN nq)).mono ?_
        rintro e w2 ⟨rfl, hR2⟩
        go_wp2_with fail
        go_roundg (ls.length - (j + 1))
        case measure => have := HK.out; omega
        case rel => exact ⟨j + 1, rfl, hlt, by rw [HX2.out], hR2⟩
      · rw [hst] at i13 hs7
        rw [hst]
        have i10 := idx1_none h10l
        have e0 : l.toList.isEmpty = false := bs_ne hp
        have e0' : (!l.toList.isEmpty) = true := by rw [e0]; rfl
        have HR := Lib.hid hr
        clear hRj hlmem h10l hst hr
        go_wp2_with fail
        refine (zzIndex_any l 10 _ hs7).mono ?_
        rintro e w' ⟨rfl, rfl⟩
        rw [i10]
        go_wp2_with fail
        refine (zzIndex_any l 13 _ hs7).mono ?_
        rintro e w' ⟨rfl, rfl⟩
        rw [i13]
        go_wp2_with fail
        refine (STEP.out _ wr (Mods.refl _ wr)).mono ?_
        rintro e w2 ⟨rfl, hR2⟩
        go_wp2_with fail
        go_roundg (ls.length - (j + 1))
        case measure => have := HK.out; omega
        case rel => exact ⟨j + 1, rfl, hlt, by rw [HR.out], hR2⟩
    · have hjl : j = ls.length := by omega
      subst hjl
      rw [hF.done]
      have e0 : (⟨#[]⟩ : ByteArray).toList.isEmpty = true := by simp [ByteArray.toList_eq]
      have e0' : (!(⟨#[]⟩ : ByteArray).toList.isEmpty) = false := by rw [e0]; rfl
      go_wp2_with fail
      refine (hR.close wr hRj).mono ?_
      rintro e w3 ⟨rfl, a, c, k11, hD0⟩
      clear hRj
      go_wp2_with fail
      go_loopg [83] n (fun k v83 wr2 => ∃ i : Nat, k = n - i ∧ i ≤ n ∧ v83 = .int .i64 i ∧ D (.slice a n c) i wr2)
      case atStart => exact ⟨0, rfl, Nat.zero_le _, rfl, hD0⟩
      case round =>
        clear k11 hD0
        obtain ⟨i, hk2, hin, rfl, hDi⟩ := hrel
        have HK2 := Lib.hid hk2
        clear hk2
        by_cases hil : i < n
        · obtain ⟨gt, tb, s, rfl, hnc, t0, r3, hI⟩ := hR.texts a c i wr hil hDi
          have u1 : (i : Int) < n := by omega
          have u2 : (0 : Int) ≤ i := by omega
          have u3 : IntKind.i64.wrap ((i : Int) + 1) = (i : Int) + 1 := IntWalk.i64_in _ (by omega)
          go_wp2_with fail
          refine hI.mono ?_
          rintro e w4 ⟨a2, n2, c2, rfl, ⟨u, m2, f2, l2⟩, hD2⟩
          go_wp2_with fail
          go_roundg (n - (i + 1))
          case measure => have := HK2.out; omega
          case rel => exact ⟨i + 1, rfl, hil, by simp, hD2⟩
        · have u1 : ¬ ((i : Int) < n) := by omega
          have hi : i = n := by omega
          subst hi
          obtain ⟨⟨rk, k1⟩, ⟨cc, k6⟩, o2, k0⟩ := hR.fin _ wr hDi
          go_wp2_with fail
          go_quiet (fail)
          go_wp2_with fail
          go_ret2
          exact ⟨rk, _, rfl, by rw [hbp]; exact k1, _, hR.sameD _ _ _ _ hDi ((Mods.refl _ wr).drewN nq)⟩
end Go.Proofs.YtmmopoofheblbaaGreatDoor

/- One line, whatever it begins with: the paragraph, closed. -/
namespace Go.Proofs.YtmmopoofheblbaaGreatDoor
open Go Go.RowKit Go.Proofs

/-- A line, whatever it begins with. -/
structure OneLn (s : ByteArray) : Prop where
  pos : 0 < s.size
  small : s.size ≤ 900000
  first : isW s[0] = false
  last : isW (s[s.size - 1]'(by omega)) = false
  no0 : ∀ i (hi : i < s.size), s[i] ≠ 0
  no10 : ∀ i (hi : i < s.size), s[i] ≠ 10
  no13 : ∀ i (hi : i < s.size), s[i] ≠ 13
  no91 : s[0] ≠ 91
  no9 : ∀ i (hi : i < s.size), s[i] ≠ 9

/-- What stands of the document when both blocks are closed. -/
structure TwoClosedC (w w' : World) (bp g cap pp : Nat) (cc : Bool) (s : ByteArray) : Prop where
  mods : Mods (fun k => k = bp ∨ k = g) w w'
  ex : ∃ rk pk tb tg tc ig ic, w.heap.size ≤ rk ∧ w.heap.size ≤ pk ∧ w.heap.size ≤ tb ∧
    Blk w' rk #[.int .i64 0, .int .i64 0, .slice (some ⟨ig, 0, none⟩) 1 ic, .map none] 111 ∧
    Blk w' pk #[.int .i64 1, .int .i64 1, .pointer (some ⟨tb, 0, none⟩)] 138 ∧
    Blk w' tb #[.int .i64 1, .int .i64 1, .slice none 0 0, .string s] 135 ∧
    PsAt w' bp { p2 pp g cap with corner := cc, texts := .slice (some ⟨tg, 0, none⟩) 1 tc, stack := .slice (some ⟨g, 0, none⟩) 0 cap, root := .pointer (some ⟨rk, 0, none⟩) } ∧
    w'.ownsRow 0 131 1 (.slice (some ⟨tg, 0, none⟩) 1 tc) 1 [.pointer (some ⟨tb, 0, none⟩)] ∧
    w'.ownsRow 0 91 1 (.slice (some ⟨ig, 0, none⟩) 1 ic) 1 [.iface 136 (.pointer (some ⟨pk, 0, none⟩))]

theorem closed_twoC (bp g cap bb pp : Nat) (cc : Bool) (tv : Value) (s : ByteArray) (v : Option Addr) (w : World) (hp : PsAt w bp { p2 pp g cap with corner := cc })
    (hown : w.ownsRow 0 239 4 (.slice (some ⟨g, 0, none⟩) (0 + 2) cap) (0 + 2) ([.iface 172 (.pointer v), .slice none 0 0, .int .i64 0, .int .i64 0] ++ [.iface 287 (.pointer (some ⟨bb, 0, none⟩)), .slice none 0 0, .int .i64 1, .int .i64 1]))
    (hB : Blk w bb #[tv, .pointer none] 291) (htv : w.ownsRow 0 9 1 tv 1 [.string s]) (hs : OneLn s) :
    Calls Tryz.prog 90 #[.pointer (some ⟨bp, 0, none⟩), .int .i64 0] w fun e w' => e = .returned (.tuple #[]) ∧ TwoClosedC w w' bp g cap pp cc s := by
  have hs6 : s.size ≤ 1000000 := by have := hs.small; omega
  obtain ⟨gt, ct, rfl, _, _, hc⟩ := ownsRow_form htv (by omega)
  have hc0 := hc 0 _ rfl
  have hJ : ∀ W, Same w W → Calls Tryz.prog 209 #[.slice (some ⟨gt, 0, none⟩) 1 ct, .string ⟨#[10]⟩] W fun e W' => e = .returned (.string s) ∧ Same W W' := fun W hW =>
    (join_one gt ct s ⟨#[10]⟩ W ((World.cell?_of_block (hW.block gt (World.block_lt_of_cell? _ _ hc0) (fun x => x))).trans hc0)).mono fun e W' ⟨h1, h2⟩ => ⟨h1, by rw [← h2]; exact Mods.refl _ _⟩
  have h91 := hs.no91
  have h10 := hs.no10 0 hs.pos
  have h9 := hs.no9 0 hs.pos
  have h32 : s[0]'hs.pos ≠ 32 := by intro h; have := hs.first; rw [h] at this; cases this
  have hcl := closePara bp bb g 0 cap 0 0 { p2 pp g cap with corner := cc } [] [] [] (.iface 172 (.pointer v)) (.slice none 0 0) (.slice none 0 0) _ 0 0 1 1 1 s w hp rfl (by omega) hown ⟨rfl, Or.inl ⟨rfl, rfl⟩⟩ (by omega) hB ⟨_, _, rfl⟩ (by omega)
    ⟨rfl, Or.inl ⟨rfl, rfl⟩⟩ (by omega) hJ hs.pos hs6 h32 h9 h10 h91 (by omega) (by omega)
  have hgen := trimStack_gen bp 0 (fun k W => match k with
    | 2 => W = w
    | 1 => ∃ u, ParaClosed w W bp g 0 cap 0 0 { p2 pp g cap with corner := cc } [] [] [] (.iface 172 (.pointer v)) (.slice none 0 0) 0 0 1 (1 + (1 : Nat) - 1) s u
    | 0 => TwoClosedC w W bp g cap pp cc s
    | _ => False) (by omega) ?_ ?_ 2 w rfl
  · exact hgen
  · intro k W hP
    match k, hP with
    | 2, hP => subst hP; exact ⟨by omega, _, _, hp.stack⟩
    | 1, ⟨u, hPC⟩ =>
      obtain ⟨pk, tb, tg, tc, ig, ic, _, _, _, _, _, h, _⟩ := hPC.ex
      exact ⟨by omega, _, _, h.stack⟩
    | 0, hP =>
      obtain ⟨rk, pk, tb, tg, tc, ig, ic, _, _, _, _, _, _, h, _⟩ := hP.ex
      exact ⟨by omega, _, _, h.stack⟩
  · intro k W hP
    match k, hP with
    | 1, hP => subst hP; exact hcl.mono fun e w' ⟨v1, h1, h2⟩ => ⟨v1, h1, v1, h2⟩
    | 0, ⟨u, hPC⟩ =>
      obtain ⟨pk, tb, tg, tc, ig, ic, _, hpk, htb, hPb, hTb, hps, htx, hrow, hin⟩ := hPC.ex
      refine (closeRoot bp g cap _ v (some ⟨ig, 0, none⟩) 1 ic none 0 0 W hps rfl hrow rfl).mono ?_
      rintro e W' ⟨u', rfl, hm, rk, hrk, hR, hps'⟩
      have h1 := hPC.mods.size
      have hne : ∀ {b : Nat} {cs : Array Value} {T : Nat}, Blk W b cs T → T ≠ 167 → ¬ (b = bp) := fun h hT => by
        obtain ⟨tail, htl⟩ := id hps
        exact h.ne_of_type htl hT
      refine ⟨u', rfl, ?_, rk, pk, tb, tg, tc, ig, ic, by omega, hpk, htb, hR, hPb.keep hm (hne hPb (by decide)), hTb.keep hm (hne hTb (by decide)), hps', ?_, ?_⟩
      · refine (hPC.mods.mono (fun k _ h => ?_)).trans (hm.mono (fun _ _ h => Or.inl h))
        rcases h with h | h | h | h
        · exact Or.inl h
        · exact Or.inr h
        · cases h
        · cases h
      · exact ownsRow_keep htx hm (fun k hk x => own_ne_ps htx hps (by decide) (by rw [← x]; exact hk))
      · exact ownsRow_keep hin hm (fun k hk x => own_ne_ps hin hps (by decide) (by rw [← x]; exact hk))

/-- A text of one line without a line feed. -/
theorem feed_one {s : ByteArray} (hs : OneLn s) : Feed (fun j => if j = 0 then s else ⟨#[]⟩) [s] where
  done := rfl
  step := by
    intro j l hl
    cases j with
    | zero =>
      have : s = l := Option.some.inj hl
      subst this
      exact Or.inr ⟨rfl, hs.pos, rfl⟩
    | succ j => simp at hl
  no10 := by
    intro l hl
    have : l = s := by simpa using hl
    subst this
    exact hs.no10
  no13 := by
    intro j i hi
    by_cases h : j = 0
    · subst h; exact hs.no13 i hi
    · exact absurd hi (by show ¬ i < (if j = 0 then s else ⟨#[]⟩ : ByteArray).size; rw [if_neg h]; exact Nat.not_lt_zero _)
  no0 := fun i hi => hs.no0 i hi
  small := by
    intro j
    by_cases h : j = 0
    · subst h; exact hs.small
    · show (if j = 0 then s else ⟨#[]⟩ : ByteArray).size ≤ 900000; rw [if_neg h]; exact Nat.zero_le _
  count := by simp

/-- What has been read behind j lines. -/
def R1 (w : World) (pp : Nat) (s : ByteArray) (j : Nat) (W : World) : Prop :=
  Same w W ∧ ∃ g cap v, w.heap.size ≤ g ∧
    ((j = 0 ∧ PsAt W w.heap.size { p0 pp with stack := .slice (some ⟨g, 0, none⟩) 1 cap } ∧ W.ownsRow 0 239 4 (.slice (some ⟨g, 0, none⟩) 1 cap) 1 [rootV' v, .slice none 0 0, .int .i64 0, .int .i64 0]) ∨
     (j = 1 ∧ ∃ c bb tv, PsAt W w.heap.size { p2 pp g cap with corner := c } ∧ w.heap.size ≤ bb ∧
       W.ownsRow 0 239 4 (.slice (some ⟨g, 0, none⟩) (0 + 2) cap) (0 + 2) ([rootV' v, .slice none 0 0, .int .i64 0, .int .i64 0] ++ [.iface 287 (.pointer (some ⟨bb, 0, none⟩)), .slice none 0 0, .int .i64 1, .int .i64 1]) ∧
       Blk W bb #[tv, .pointer none] 291 ∧ W.ownsRow 0 9 1 tv 1 [.string s]))
end Go.Proofs.YtmmopoofheblbaaGreatDoor
