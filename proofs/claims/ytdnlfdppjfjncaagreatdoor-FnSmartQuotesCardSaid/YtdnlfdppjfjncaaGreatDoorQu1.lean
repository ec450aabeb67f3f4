/- Some texts of one proof, put into one file: EmphX, EmphY, QuoteP, ParseM, MergeQ, QuoteI, QuoteL. -/
import Derived.Deep.LoopGhost
import Derived.LoopN
import Derived.Deep.RegionHeld3
import Derived.Test.YtdnlfdppjfjncaaGreatDoorSt4
import Derived.Test.YtdnlfdppjfjncaaGreatDoorSt7
import Derived.Test.YtdnlfdppjfjncaaGreatDoorSt8
import Derived.Test.YtdnlfdppjfjncaaGreatDoorSt9
/- emph of a word between quotation marks among words: the walk. -/
namespace Go.Proofs.YtdnlfdppjfjncaaGreatDoor
open Go Go.RowKit Go.Proofs

theorem as_mark_must (X : Nat) (v : Value) (w : World) : (Instr.typeAssert (.iface 190 v) X 190 false).run Tryz.prog w = .ok v w := by kernel_rfl
/-- The stacks of marks, a value for that of quotation marks, double or single ones. -/
def stk3 (v : Value) : Array Value := #[sNil, sNil, sNil, v, sNil]
def stk4 (v : Value) : Array Value := #[sNil, sNil, sNil, sNil, v]
/-- What emph leaves. -/
def QEnd (w w' : World) (g cap m1 m2 T0 T2 T4 : Nat) (v0 v2 v4 : Value) (X Y : ByteArray) : Prop :=
  ∃ sa, Em w w' g 5 cap w.heap.size (w.heap.size + 1) m1 m2 5 [.iface T0 v0, .iface 190 (.pointer (some ⟨m1, 0, none⟩)), .iface T2 v2, .iface 190 (.pointer (some ⟨m2, 0, none⟩)), .iface T4 v4] sa #[.string X, .bool true, .bool false, .int .i64 1, .int .i64 1] #[.string Y, .bool false, .bool true, .int .i64 0, .int .i64 1]

/-- What stands at the begin of round i. -/
def SQ34 (w wr : World) (g cap m1 m2 T0 T2 T4 : Nat) (v0 v2 v4 : Value) (i : Nat) : Prop :=
  (i = 0 ∧ Em w wr g 5 cap w.heap.size (w.heap.size + 1) m1 m2 0 [.iface T0 v0, .iface 190 (.pointer (some ⟨m1, 0, none⟩)), .iface T2 v2, .iface 190 (.pointer (some ⟨m2, 0, none⟩)), .iface T4 v4] (stk3 sNil) #[.string ⟨#[34]⟩, .bool true, .bool false, .int .i64 0, .int .i64 1] #[.string ⟨#[34]⟩, .bool false, .bool true, .int .i64 0, .int .i64 1]) ∨ (i = 1 ∧ Em w wr g 5 cap w.heap.size (w.heap.size + 1) m1 m2 1 [.iface T0 v0, .iface 190 (.pointer (some ⟨m1, 0, none⟩)), .iface T2 v2, .iface 190 (.pointer (some ⟨m2, 0, none⟩)), .iface T4 v4] (stk3 sNil) #[.string ⟨#[34]⟩, .bool true, .bool false, .int .i64 0, .int .i64 1] #[.string ⟨#[34]⟩, .bool false, .bool true, .int .i64 0, .int .i64 1]) ∨
  ((i = 2 ∨ i = 3) ∧ ∃ sg sc, 1 ≤ sc ∧ w.heap.size ≤ sg ∧ Em w wr g 5 cap w.heap.size (w.heap.size + 1) m1 m2 i [.iface T0 v0, .iface 190 (.pointer (some ⟨m1, 0, none⟩)), .iface T2 v2, .iface 190 (.pointer (some ⟨m2, 0, none⟩)), .iface T4 v4] (stk3 (.slice (some ⟨sg, 0, none⟩) 1 sc)) #[.string ⟨#[226, 128, 156]⟩, .bool true, .bool false, .int .i64 1, .int .i64 1] #[.string ⟨#[34]⟩, .bool false, .bool true, .int .i64 0, .int .i64 1] ∧ wr.ownsRow 0 190 1 (.slice (some ⟨sg, 0, none⟩) 1 sc) 1 [.pointer (some ⟨m1, 0, none⟩)]) ∨
  ((i = 4 ∨ i = 5) ∧ ∃ sa, Em w wr g 5 cap w.heap.size (w.heap.size + 1) m1 m2 i [.iface T0 v0, .iface 190 (.pointer (some ⟨m1, 0, none⟩)), .iface T2 v2, .iface 190 (.pointer (some ⟨m2, 0, none⟩)), .iface T4 v4] (sa) #[.string ⟨#[226, 128, 156]⟩, .bool true, .bool false, .int .i64 1, .int .i64 1] #[.string ⟨#[226, 128, 157]⟩, .bool false, .bool true, .int .i64 0, .int .i64 1])

set_option maxRecDepth 100000 in
set_option maxHeartbeats 20000000 in
theorem emph_quote34 (q : Value) (g cap m1 m2 T0 T2 T4 : Nat) (v0 v2 v4 : Value) (w : World)
    (hown : w.ownsRow 0 132 1 (.slice (some ⟨g, 0, none⟩) 5 cap) 5 [.iface T0 v0, .iface 190 (.pointer (some ⟨m1, 0, none⟩)), .iface T2 v2, .iface 190 (.pointer (some ⟨m2, 0, none⟩)), .iface T4 v4])
    (h0 : Quiet T0) (h2 : Quiet T2) (h4 : Quiet T4) (hM1 : Blk w m1 #[.string ⟨#[34]⟩, .bool true, .bool false, .int .i64 0, .int .i64 1] 192) (hM2 : Blk w m2 #[.string ⟨#[34]⟩, .bool false, .bool true, .int .i64 0, .int .i64 1] 192) (hm12 : m1 ≠ m2) (_hgw : g < w.heap.size) :
    Calls Tryz.prog 91 #[q, .slice (some ⟨g, 0, none⟩) 0 cap, .slice (some ⟨g, 0, none⟩) 5 cap] w fun e w' => e = .returned (.slice (some ⟨g, 0, none⟩) 5 cap) ∧ QEnd w w' g cap m1 m2 T0 T2 T4 v0 v2 v4 ⟨#[226, 128, 156]⟩ ⟨#[226, 128, 157]⟩ := by
  have hcap : 5 ≤ cap := by
    rcases hown.2 with ⟨h, _⟩ | ⟨_, _, _, h, _, _, hc, _⟩
    · cases h
    · cases h; exact hc
  go_enter Tryz.func91, Tryz.ntmps91
  go_wp2_with fail
  go_step3
  go_wp2_with fail
  go_step3
  go_wp2_with fail
  generalize hW : (World.alloc _ _ : World) = W
  have hS : Same w W := by subst hW; exact ((Mods.refl _ w).alloc _).alloc _
  have hD : Blk W w.heap.size #[.slice (some ⟨g, 0, none⟩) 0 cap] 88 := by subst hW; exact (Blk.newAt _ _ rfl).alloc _
  have hK : Blk W (w.heap.size + 1) (stk3 sNil) 210 := by subst hW; exact Blk.newAt _ _ (by simp)
  clear hW
  have hE : Em w W g 5 cap w.heap.size (w.heap.size + 1) m1 m2 0 [.iface T0 v0, .iface 190 (.pointer (some ⟨m1, 0, none⟩)), .iface T2 v2, .iface 190 (.pointer (some ⟨m2, 0, none⟩)), .iface T4 v4] (stk3 sNil) #[.string ⟨#[34]⟩, .bool true, .bool false, .int .i64 0, .int .i64 1] #[.string ⟨#[34]⟩, .bool false, .bool true, .int .i64 0, .int .i64 1] := ⟨hS.mono (fun _ _ x => absurd x (fun x => x)), Nat.le_refl _, Nat.le_succ _, hD, hK, ownsRow_keep hown hS (fun _ _ x => x), hS.blk hM1, hS.blk hM2, by omega⟩
  clear hD hK hS hown hM1 hM2
  refine wp_loop_ghost_k (fun m a wr => ∃ (i : Nat) (v : Nat → Value), (m = 5 - i ∧ i ≤ 5 ∧ SQ34 w wr g cap m1 m2 T0 T2 T4 v0 v2 v4 i) ∧
    a = ⟨#[q, .slice (some ⟨g, 0, none⟩) 0 cap, .slice (some ⟨g, 0, none⟩) 5 cap, undef, .pointer (some ⟨w.heap.size, 0, none⟩), undef, .slice none 0 0, .pointer (some ⟨w.heap.size + 1, 0, none⟩), .func (.func 129) #[] #[], .func (.func 130) #[] #[.pointer (some ⟨w.heap.size + 1, 0, none⟩), .pointer (some ⟨w.heap.size, 0, none⟩)], .int .i64 i, v 11, v 12, v 13, v 14, v 15, v 16, v 17, v 18, v 19, v 20, v 21, .func (.func 130) #[] #[.pointer (some ⟨w.heap.size + 1, 0, none⟩), .pointer (some ⟨w.heap.size, 0, none⟩)], v 23, v 24, v 25, v 26, v 27, v 28, v 29, v 30, v 31, v 32, v 33, v 34, v 35, v 36, v 37, v 38, v 39, v 40, v 41, v 42, v 43, v 44, v 45, v 46, v 47, v 48, v 49, v 50, v 51, v 52, v 53, v 54, v 55, v 56, v 57, v 58, v 59, v 60, v 61, v 62, v 63, v 64, v 65, v 66, v 67, v 68, v 69, v 70, v 71, v 72, v 73, v 74, v 75, v 76, v 77, v 78, v 79, v 80, v 81, v 82, v 83, v 84, v 85, v 86, v 87, v 88, v 89, v 90, v 91, v 92, v 93, v 94, v 95, v 96, v 97, v 98, v 99, v 100, v 101, v 102, v 103, v 104, v 105, v 106, v 107, v 108, v 109, v 110, v 111, v 112, v 113, v 114, v 115, v 116, v 117, v 118, v 119, v 120, v 121, v 122, v 123, v 124, v 125, v 126, v 127, v 128, v 129, v 130, v 131, v 132, v 133, v 134, v 135, v 136, v 137, v 138, v 139, v 140, v 141, v 142, v 143, v 144, v 145, v 146, v 147, v 148, v 149, v 150, v 151, v 152, v 153, v 154, v 155, v 156, v 157, v 158, v 159, v 160, v 161, v 162, v 163, v 164, v 165, v 166, v 167, v 168, v 169, v 170, v 171, v 172, v 173, v 174, v 175, v 176, v 177, v 178, v 179, v 180, v 181, v 182, v 183, v 184, v 185, v 186, v 187, v 188, v 189, v 190, v 191, v 192, v 193, v 194, v 195, v 196, v 197, v 198, v 199, v 200, v 201, v 202, v 203, v 204, v 205, v 206, v 207, v 208, v 209, v 210, v 211, v 212, v 213, v 214, v 215, v 216, v 217, v 218, v 219, v 220, v 221, v 222, v 223, v 224, v 225, v 226, v 227, v 228, v 229, v 230, v 231, v 232, v 233, v 234, v 235, v 236, v 237, v 238, v 239, v 240, v 241, v 242, v 243, v 244, v 245, v 246, v 247, v 248, v 249, v 250, v 251, v 252, v 253, v 254, v 255, v 256, v 257, v 258, v 259, v 260, v 261, v 262, v 263, v 264, v 265, v 266, v 267, v 268, v 269, v 270, v 271, v 272, v 273, v 274, v 275, v 276, v 277, v 278, v 279, v 280, v 281, v 282, v 283, v 284, v 285, v 286, v 287, v 288, v 289, v 290, v 291, v 292, v 293, v 294, v 295, v 296, v 297, v 298, v 299, v 300, v 301, v 302, v 303, v 304, v 305, v 306, v 307, v 308, v 309, v 310, v 311, v 312, v 313, v 314, v 315, v 316, v 317, v 318, v 319, v 320, v 321, v 322, v 323, v 324, v 325, v 326, v 327, v 328, v 329, v 330, v 331, v 332, v 333, v 334, v 335, v 336, v 337, v 338, v 339, v 340, v 341, v 342, v 343, v 344, v 345, v 346, v 347, v 348, v 349, v 350, v 351, v 352, v 353, v 354, v 355, v 356, v 357, v 358, v 359, v 360, v 361, v 362, v 363, v 364, v 365, v 366, v 367, v 368, v 369, v 370, v 371, v 372, v 373, v 374, v 375, v 376, v 377, v 378, v 379, v 380, v 381, v 382, v 383, v 384, v 385, v 386, v 387, v 388, v 389, v 390, v 391, v 392, v 393, v 394, v 395, v 396, v 397, v 398, v 399, v 400, v 401, v 402, v 403, v 404, v 405, v 406, v 407, v 408, v 409, v 410, v 411, v 412, v 413, v 414, v 415, v 416, v 417, v 418, v 419, v 420, v 421, v 422, v 423, v 424, v 425, v 426, v 427, v 428, v 429, v 430, v 431, v 432, v 433, v 434, v 435], []⟩) 5 ⟨0, fun _ => undef, ⟨rfl, Nat.zero_le _, Or.inl ⟨rfl, hE⟩⟩, rfl⟩ ?_
  clear hE
  intro gk a wr hinv
  obtain ⟨i, v, ⟨rfl, hi, hst⟩, rfl⟩ := hinv
  intro J K hJ hK
  rcases hst with ⟨rfl, hE⟩ | ⟨rfl, hE⟩ | ⟨hi23, sg, sc, hsc, hsg, hE, hsr⟩ | ⟨hi45, sa, hE⟩
  · skip
    obtain ⟨k0, k1, k2⟩ := hE.cells
    have s0 : wr.cell? ⟨g, 0, none⟩ = some (.iface T0 v0) := hE.src 0 _ rfl
    have q1 := h0.open_
    have q2 := h0.emph
    have hSd : ∀ o, Same wr ((wr.alloc o).drew) := fun o => ((Mods.refl (fun _ => False) wr).alloc o).drew
    go_wp2_with fail
    go_region_law (refine st_room_inl rfl (.tmp 55) (.tmp 60) rfl g 0 5 cap _ (ownsRow_keep hE.row (hSd _) (fun _ _ x => x)) (by omega) (.iface T0 v0) rfl wr.heap.size 1 rfl rfl ((Blk.drew (Blk.newAt _ _ rfl)).cell 0) ?_; intro wB hmB hrB; have hEB := hE.app (hSd _) hmB hrB; obtain ⟨k0', k1', k2'⟩ := hEB.cells)
    all_goals
      go_wp2_with fail
      refine Handed.intro (5 - (0 + 1)) (by omega) (hJ _ _ _ ⟨0 + 1, (fun d => cond (Nat.ble 11 d && Nat.ble d 61) (cond (Nat.ble d 42) (cond (Nat.ble d 26) (List.getD [_, _, _, _, _, _, _, _, _, _, _, undef, _, _, _, _] (d - 11) undef) (List.getD [_, _, _, _, _, _, _, _, _, _, _, _, _, _, _, _] (d - 27) undef)) (cond (Nat.ble d 58) (List.getD [_, _, _, _, _, _, _, _, _, _, _, _, _, _, _, _] (d - 43) undef) (List.getD [_, _, _] (d - 59) undef))) (v d)), ⟨rfl, by omega, Or.inr (Or.inl ⟨rfl, hEB.setD 1⟩)⟩, rfl⟩)
  · obtain ⟨k0, k1, k2⟩ := hE.cells
    have s0 : wr.cell? ⟨g, 1, none⟩ = some (.iface 190 (.pointer (some ⟨m1, 0, none⟩))) := hE.src 1 _ rfl
    have q1 := as_open_mark
    have q2 := as_mark_yes
    obtain ⟨x0, f0, _⟩ := hE.m1c 0
    have x1 := (hE.m1c 1).1
    have x2 := (hE.m1c 2).1
    obtain ⟨x3, x4, x5⟩ := hE.m1c 3
    have HE := Lib.hid hE
    clear hE
    go_wp2_with fail
    refine (stackOf_n 34 3 wr (Or.inr (Or.inl ⟨rfl, rfl⟩))).mono ?_
    rintro e w' ⟨rfl, rfl⟩
    go_upto_region 57 with (fail)
    have hE0 := HE.out.setI hm12 0 (.string ⟨#[226, 128, 156]⟩)
    generalize (World.setCell wr _ _ : World) = w0 at hE0 ⊢
    clear k0 k1 k2 s0 q1 q2 x0 x1 x2 x3 x4 x5 f0 HE
    obtain ⟨k0, k1, k2⟩ := hE0.cells
    have x1 := (hE0.m1c 1).1
    obtain ⟨x3, x4, x5⟩ := hE0.m1c 3
    have HE0 := Lib.hid hE0
    clear hE0
    go_upto_region 59 with (fail)
    have hE1 := HE0.out.setI hm12 3 (.int .i64 1)
    generalize (World.setCell w0 _ _ : World) = w1 at hE1 ⊢
    clear k0 k1 k2 x1 x3 x4 x5 HE0
    obtain ⟨k0, k1, k2⟩ := hE1.cells
    go_wp2_with (at_builtin; refine wl_room_inl rfl (.tmp 415) (.tmp 418) rfl g 1 5 cap _ (ownsRow_keep hE1.row ((Mods.refl (fun _ => False) w1).alloc _) (fun _ _ x => x)) (by omega) (.iface 190 (.pointer (some ⟨m1, 0, none⟩))) rfl w1.heap.size 1 rfl rfl ((Blk.newAt _ _ rfl).cell 0) ?_)
    intro wB hmB hrB
    have hEB := hE1.app ((Mods.refl (fun _ => False) w1).alloc _) hmB hrB
    clear k0 k1 k2 hmB hrB hE1
    obtain ⟨k0, k1, k2⟩ := hEB.cells
    go_upto_region 60 with (fail)
    have hE2 := hEB.setD 2
    generalize (World.setCell wB _ _ : World) = w2 at hE2 ⊢
    clear k0 k1 k2 hEB
    obtain ⟨y0, y1, y2⟩ := hE2.sc 3
    have y0' : w2.cell? ⟨w.heap.size + 1, 3, none⟩ = some (.slice none 0 0) := y0
    clear y0
    go_wp2_with (at_builtin; refine ap_mark rfl (.tmp 423) (.tmp 425) rfl (.slice none 0 0) 0 [] rfl ⟨rfl, Or.inl ⟨rfl, rfl⟩⟩ w2.heap.size 1 (some ⟨m1, 0, none⟩) rfl ((Blk.newAt _ _ rfl).cell 0) (by omega) ?_)
    intro sg sc w3 hrow3 hgrow hloc
    have hS3 : Same w2 w3 := ((Mods.refl (fun _ => False) w2).alloc _).trans ((grown_mods hgrow).mono (fun _ _ h => by cases h))
    have hE3 := hE2.same hS3
    have hz := hE2.mods.size
    have hsg9 : w.heap.size ≤ sg := by
      rcases hloc with h | h
      · cases h
      · have h9 : sg = w2.heap.size + 1 := by simpa using h
        omega
    clear y0' y1 y2 hgrow hloc hS3 hE2
    obtain ⟨_, y1, y2⟩ := hE3.sc 3
    have hsc1 : 1 ≤ sc := by
      rcases hrow3.2 with ⟨h, _⟩ | ⟨_, _, _, h, _, _, hc, _⟩
      · cases h
      · cases h; exact hc
    go_wp2_with fail
    have hE4 := hE3.setS 3 (.slice (some ⟨sg, 0, none⟩) (0 + 1) sc)
    have hr4 := row_set3 hE3 hrow3 3 (.slice (some ⟨sg, 0, none⟩) (0 + 1) sc)
    refine Handed.intro (5 - (1 + 1)) (by omega) (hJ _ _ _ ⟨1 + 1, (fun d => cond (Nat.ble 11 d && Nat.ble d 434) (cond (Nat.ble d 218) (cond (Nat.ble d 106) (cond (Nat.ble d 58) (cond (Nat.ble d 26) (List.getD [_, _, _, _, _, _, _, _, _, _, _, undef, _, _, _, _] (d - 11) undef) (cond (Nat.ble d 42) (List.getD [_, _, _, _, _, _, _, _, _, _, _, _, _, _, _, _] (d - 27) undef) (List.getD [_, _, _, _, _, _, _, _, _, _, _, _, _, _, _, _] (d - 43) undef))) (cond (Nat.ble d 74) (List.getD [_, _, _, _, _, _, _, _, _, _, _, _, _, _, _, _] (d - 59) undef) (cond (Nat.ble d 90) (List.getD [_, _, _, _, _, _, _, _, _, _, _, _, _, _, _, _] (d - 75) undef) (List.getD [_, _, _, _, _, _, _, _, _, _, _, _, _, _, _, _] (d - 91) undef)))) (cond (Nat.ble d 154) (cond (Nat.ble d 122) (List.getD [_, _, _, _, _, _, _, _, _, _, _, _, _, _, _, _] (d - 107) undef) (cond (Nat.ble d 138) (List.getD [_, _, _, _, _, _, _, _, _, _, _, _, _, _, _, _] (d - 123) undef) (List.getD [_, _, _, _, _, _, _, _, _, _, _, _, _, _, _, _] (d - 139) undef))) (cond (Nat.ble d 186) (cond (Nat.ble d 170) (List.getD [_, _, _, _, _, _, _, _, _, _, _, _, _, _, _, _] (d - 155) undef) (List.getD [_, _, _, _, _, _, _, _, _, _, _, _, _, _, _, _] (d - 171) undef)) (cond (Nat.ble d 202) (List.getD [_, _, _, _, _, _, _, _, _, _, _, _, _, _, _, _] (d - 187) undef) (List.getD [_, _, _, _, _, _, _, _, _, _, _, _, _, _, _, _] (d - 203) undef))))) (cond (Nat.ble d 330) (cond (Nat.ble d 266) (cond (Nat.ble d 234) (List.getD [_, _, _, _, _, _, _, _, _, _, _, _, _, _, _, _] (d - 219) undef) (cond (Nat.ble d 250) (List.getD [_, _, _, _, _, _, _, _, _, _, _, _, _, _, _, _] (d - 235) undef) (List.getD [_, _, _, _, _, _, _, _, _, _, _, _, _, _, _, _] (d - 251) undef))) (cond (Nat.ble d 298) (cond (Nat.ble d 282) (List.getD [_, _, _, _, _, _, _, _, _, _, _, _, _, _, _, _] (d - 267) undef) (List.getD [_, _, _, _, _, _, _, _, _, _, _, _, _, _, _, _] (d - 283) undef)) (cond (Nat.ble d 314) (List.getD [_, _, _, _, _, _, _, _, _, _, _, _, _, _, _, _] (d - 299) undef) (List.getD [_, _, _, _, _, _, _, _, _, _, _, _, _, _, _, _] (d - 315) undef)))) (cond (Nat.ble d 378) (cond (Nat.ble d 346) (List.getD [_, _, _, _, _, _, _, _, _, _, _, _, _, _, _, _] (d - 331) undef) (cond (Nat.ble d 362) (List.getD [_, _, _, _, _, _, _, _, _, _, _, _, _, _, _, _] (d - 347) undef) (List.getD [_, _, _, _, _, _, _, _, _, _, _, _, _, _, _, _] (d - 363) undef))) (cond (Nat.ble d 410) (cond (Nat.ble d 394) (List.getD [_, _, _, _, _, _, _, _, _, _, _, _, _, _, _, _] (d - 379) undef) (List.getD [_, _, _, _, _, _, _, _, _, _, _, _, _, _, _, _] (d - 395) undef)) (cond (Nat.ble d 426) (List.getD [_, _, _, _, _, _, _, _, _, _, _, _, _, _, _, _] (d - 411) undef) (List.getD [_, _, _, _, _, _, _, _] (d - 427) undef)))))) (v d)), ⟨rfl, by omega, Or.inr (Or.inr (Or.inl ⟨Or.inl rfl, sg, sc, hsc1, hsg9, hE4, hr4⟩))⟩, rfl⟩)
  · rcases hi23 with rfl | rfl
    · skip
      obtain ⟨k0, k1, k2⟩ := hE.cells
      have s0 : wr.cell? ⟨g, 2, none⟩ = some (.iface T2 v2) := hE.src 2 _ rfl
      have q1 := h2.open_
      have q2 := h2.emph
      have hSd : ∀ o, Same wr ((wr.alloc o).drew) := fun o => ((Mods.refl (fun _ => False) wr).alloc o).drew
      go_wp2_with fail
      go_region_law (refine st_room_inl rfl (.tmp 55) (.tmp 60) rfl g 2 5 cap _ (ownsRow_keep hE.row (hSd _) (fun _ _ x => x)) (by omega) (.iface T2 v2) rfl wr.heap.size 1 rfl rfl ((Blk.drew (Blk.newAt _ _ rfl)).cell 0) ?_; intro wB hmB hrB; have hEB := hE.app (hSd _) hmB hrB; obtain ⟨k0', k1', k2'⟩ := hEB.cells)
      all_goals
        go_wp2_with fail
        refine Handed.intro (5 - (2 + 1)) (by omega) (hJ _ _ _ ⟨2 + 1, (fun d => cond (Nat.ble 11 d && Nat.ble d 61) (cond (Nat.ble d 42) (cond (Nat.ble d 26) (List.getD [_, _, _, _, _, _, _, _, _, _, _, undef, _, _, _, _] (d - 11) undef) (List.getD [_, _, _, _, _, _, _, _, _, _, _, _, _, _, _, _] (d - 27) undef)) (cond (Nat.ble d 58) (List.getD [_, _, _, _, _, _, _, _, _, _, _, _, _, _, _, _] (d - 43) undef) (List.getD [_, _, _] (d - 59) undef))) (v d)), ⟨rfl, by omega, Or.inr (Or.inr (Or.inl ⟨Or.inr rfl, sg, sc, hsc, hsg, hEB.setD 3, row_setD hEB (row_app hE hsr (hSd _) hmB) _⟩))⟩, rfl⟩)
    · obtain ⟨k0, k1, k2⟩ := hE.cells
      have s0 : wr.cell? ⟨g, 3, none⟩ = some (.iface 190 (.pointer (some ⟨m2, 0, none⟩))) := hE.src 3 _ rfl
      have s1 : wr.cell? ⟨g, 1, none⟩ = some (.iface 190 (.pointer (some ⟨m1, 0, none⟩))) := hE.src 1 _ rfl
      have q1 := as_open_mark
      have q2 := as_mark_yes
      obtain ⟨x0, xf, xl⟩ := hE.m2c 0
      have x1 := (hE.m2c 1).1
      have x2 := (hE.m2c 2).1
      obtain ⟨z0, zf, zl⟩ := hE.m1c 0
      have z3 := (hE.m1c 3).1
      have y2 : wr.cell? ⟨w.heap.size + 1, 3, none⟩ = some (.slice (some ⟨sg, 0, none⟩) 1 sc) := (hE.sc 3).1
      obtain ⟨_, _, he, _, _, hrc⟩ := ownsRow_form hsr (by omega)
      cases he
      have y3 : wr.cell? ⟨sg, 0, none⟩ = some (.pointer (some ⟨m1, 0, none⟩)) := hrc 0 _ rfl
      have HE := Lib.hid hE
      clear hE hrc
      have u0 : (((⟨#[34]⟩ : ByteArray)[0]'(by decide)).toNat : Int) = 34 := rfl
      go_wp2_with fail
      go_step3
      go_wp2_with fail
      refine (stackOf_n 34 3 wr (Or.inr (Or.inl ⟨rfl, rfl⟩))).mono ?_
      rintro e w' ⟨rfl, rfl⟩
      go_wp2_with fail
      go_step3
      go_wp2_with fail
      refine wp_loop_rounds 2 ?_
      rw [rounds_succ]
      go_wp2_with fail
      refine wp_loop_rounds 1 ?_
      rw [rounds_succ]
      go_wp2_with fail
      go_quiet (fail)
      go_wp2_with fail
      go_quiet (fail)
      go_wp2_with fail
      generalize hX : (World.drewN _ _ : World) = X
      have hSX : Same wr X := by subst hX; exact (Mods.refl _ wr).drewN _
      have hE1 := HE.out.same hSX
      have hsr1 := ownsRow_keep hsr hSX (fun _ _ x => x)
      clear hX HE hSX k0 k1 k2 s0 s1 q1 q2 x0 xf xl x1 x2 z0 zf zl z3 y2 y3
      obtain ⟨k0, k1, k2⟩ := hE1.cells
      have s1 : X.cell? ⟨g, 1, none⟩ = some (.iface 190 (.pointer (some ⟨m1, 0, none⟩))) := hE1.src 1 _ rfl
      have q3 := as_mark_must
      obtain ⟨x0, xf, xl⟩ := hE1.m2c 0
      obtain ⟨z0, zf, zl⟩ := hE1.m1c 0
      have z3 := (hE1.m1c 3).1
      have c1 : (1 : Int) < 3 := by omega
      have HE1 := Lib.hid hE1
      have HSr := Lib.hid hsr1
      clear hE1 hsr1
      go_region
      go_upto_region 25 with (fail)
      have hm4 := two_mods X m1 m2 (.string ⟨#[226, 128, 156]⟩) (.string ⟨#[226, 128, 157]⟩)
      have hE2 := (HE1.out.setI hm12 0 (.string ⟨#[226, 128, 156]⟩)).setJ hm12 0 (.string ⟨#[226, 128, 157]⟩)
      generalize (World.setCell (World.setCell X _ _) _ _ : World) = Y at hm4 hE2 ⊢
      have hSr2 := two_row HE1.out hm4 HSr.out (by decide)
      clear hm4 HE1 HSr k0 k1 k2 s1 q3 x0 xf xl z0 zf zl z3 c1
      have hSY : Same Y Y.drew := (Mods.refl (fun _ => False) Y).drew
      generalize (World.drew Y : World) = Z at hSY ⊢
      have hE3 := hE2.same hSY
      have hSr3 := ownsRow_keep hSr2 hSY (fun _ _ x => x)
      clear hE2 hSr2 hSY
      obtain ⟨k0, k1, k2⟩ := hE3.cells
      have HE3 := Lib.hid hE3
      have HSr := Lib.hid hSr3
      clear hE3 hSr3
      go_wp2_with (at_builtin; refine wl_room_inl rfl (.tmp 209) (.tmp 212) rfl g 3 5 cap _ (ownsRow_keep HE3.out.row ((Mods.refl (fun _ => False) Z).alloc _) (fun _ _ x => x)) (by omega) (.iface 190 (.pointer (some ⟨m2, 0, none⟩))) rfl Z.heap.size 1 rfl rfl ((Blk.newAt _ _ rfl).cell 0) ?_)
      intro wB hmB hrB
      have hEB := HE3.out.app ((Mods.refl (fun _ => False) Z).alloc _) hmB hrB
      clear k0 k1 k2 hmB hrB HE3 HSr
      obtain ⟨k0, k1, k2⟩ := hEB.cells
      have HEB := Lib.hid hEB
      clear hEB
      go_upto_region 26 with (fail)
      have hE5 := HEB.out.setD 4
      generalize (World.setCell wB _ _ : World) = U at hE5 ⊢
      clear k0 k1 k2 HEB
      obtain ⟨y0, y1, y2⟩ := hE5.sc 3
      have y0' : U.cell? ⟨w.heap.size + 1, 3, none⟩ = some (.slice (some ⟨sg, 0, none⟩) 1 sc) := y0
      have c1 : (0 : Int) ≤ sc := by omega
      have HE5 := Lib.hid hE5
      clear y0 hE5
      go_wp2_with fail
      rw [Exit.noGoto_exit]
      go_wp2_with fail
      refine Handed.intro (5 - (3 + 1)) (by omega) (hJ _ _ _ ⟨3 + 1, (fun d => cond (Nat.ble 11 d && Nat.ble d 434) (cond (Nat.ble d 218) (cond (Nat.ble d 106) (cond (Nat.ble d 58) (cond (Nat.ble d 26) (List.getD [_, _, _, _, _, _, _, _, _, _, _, undef, _, _, _, _] (d - 11) undef) (cond (Nat.ble d 42) (List.getD [_, _, _, _, _, _, _, _, _, _, _, _, _, _, _, _] (d - 27) undef) (List.getD [_, _, _, _, _, _, _, _, _, _, _, _, _, _, _, _] (d - 43) undef))) (cond (Nat.ble d 74) (List.getD [_, _, _, _, _, _, _, _, _, _, _, _, _, _, _, _] (d - 59) undef) (cond (Nat.ble d 90) (List.getD [_, _, _, _, _, _, _, _, _, _, _, _, _, _, _, _] (d - 75) undef) (List.getD [_, _, _, _, _, _, _, _, _, _, _, _, _, _, _, _] (d - 91) undef)))) (cond (Nat.ble d 154) (cond (Nat.ble d 122) (List.getD [_, _, _, _, _, _, _, _, _, _, _, _, _, _, _, _] (d - 107) undef) (cond (Nat.ble d 138) (List.getD [_, _, _, _, _, _, _, _, _, _, _, _, _, _, _, _] (d - 123) undef) (List.getD [_, _, _, _, _, _, _, _, _, _, _, _, _, _, _, _] (d - 139) undef))) (cond (Nat.ble d 186) (cond (Nat.ble d 170) (List.getD [_, _, _, _, _, _, _, _, _, _, _, _, _, _, _, _] (d - 155) undef) (List.getD [_, _, _, _, _, _, _, _, _, _, _, _, _, _, _, _] (d - 171) undef)) (cond (Nat.ble d 202) (List.getD [_, _, _, _, _, _, _, _, _, _, _, _, _, _, _, _] (d - 187) undef) (List.getD [_, _, _, _, _, _, _, _, _, _, _, _, _, _, _, _] (d - 203) undef))))) (cond (Nat.ble d 330) (cond (Nat.ble d 266) (cond (Nat.ble d 234) (List.getD [_, _, _, _, _, _, _, _, _, _, _, _, _, _, _, _] (d - 219) undef) (cond (Nat.ble d 250) (List.getD [_, _, _, _, _, _, _, _, _, _, _, _, _, _, _, _] (d - 235) undef) (List.getD [_, _, _, _, _, _, _, _, _, _, _, _, _, _, _, _] (d - 251) undef))) (cond (Nat.ble d 298) (cond (Nat.ble d 282) (List.getD [_, _, _, _, _, _, _, _, _, _, _, _, _, _, _, _] (d - 267) undef) (List.getD [_, _, _, _, _, _, _, _, _, _, _, _, _, _, _, _] (d - 283) undef)) (cond (Nat.ble d 314) (List.getD [_, _, _, _, _, _, _, _, _, _, _, _, _, _, _, _] (d - 299) undef) (List.getD [_, _, _, _, _, _, _, _, _, _, _, _, _, _, _, _] (d - 315) undef)))) (cond (Nat.ble d 378) (cond (Nat.ble d 346) (List.getD [_, _, _, _, _, _, _, _, _, _, _, _, _, _, _, _] (d - 331) undef) (cond (Nat.ble d 362) (List.getD [_, _, _, _, _, _, _, _, _, _, _, _, _, _, _, _] (d - 347) undef) (List.getD [_, _, _, _, _, _, _, _, _, _, _, _, _, _, _, _] (d - 363) undef))) (cond (Nat.ble d 410) (cond (Nat.ble d 394) (List.getD [_, _, _, _, _, _, _, _, _, _, _, _, _, _, _, _] (d - 379) undef) (List.getD [_, _, _, _, _, _, _, _, _, _, _, _, _, _, _, _] (d - 395) undef)) (cond (Nat.ble d 426) (List.getD [_, _, _, _, _, _, _, _, _, _, _, _, _, _, _, _] (d - 411) undef) (List.getD [_, _, _, _, _, _, _, _] (d - 427) undef)))))) (v d)), ⟨rfl, by omega, Or.inr (Or.inr (Or.inr ⟨Or.inl rfl, _, HE5.out.setS 3 (.slice (some ⟨sg, 0, none⟩) 0 sc)⟩))⟩, rfl⟩)
  · rcases hi45 with rfl | rfl
    · skip
      obtain ⟨k0, k1, k2⟩ := hE.cells
      have s0 : wr.cell? ⟨g, 4, none⟩ = some (.iface T4 v4) := hE.src 4 _ rfl
      have q1 := h4.open_
      have q2 := h4.emph
      have hSd : ∀ o, Same wr ((wr.alloc o).drew) := fun o => ((Mods.refl (fun _ => False) wr).alloc o).drew
      go_wp2_with fail
      go_region_law (refine st_room_inl rfl (.tmp 55) (.tmp 60) rfl g 4 5 cap _ (ownsRow_keep hE.row (hSd _) (fun _ _ x => x)) (by omega) (.iface T4 v4) rfl wr.heap.size 1 rfl rfl ((Blk.drew (Blk.newAt _ _ rfl)).cell 0) ?_; intro wB hmB hrB; have hEB := hE.app (hSd _) hmB hrB; obtain ⟨k0', k1', k2'⟩ := hEB.cells)
      all_goals
        go_wp2_with fail
        refine Handed.intro (5 - (4 + 1)) (by omega) (hJ _ _ _ ⟨4 + 1, (fun d => cond (Nat.ble 11 d && Nat.ble d 61) (cond (Nat.ble d 42) (cond (Nat.ble d 26) (List.getD [_, _, _, _, _, _, _, _, _, _, _, undef, _, _, _, _] (d - 11) undef) (List.getD [_, _, _, _, _, _, _, _, _, _, _, _, _, _, _, _] (d - 27) undef)) (cond (Nat.ble d 58) (List.getD [_, _, _, _, _, _, _, _, _, _, _, _, _, _, _, _] (d - 43) undef) (List.getD [_, _, _] (d - 59) undef))) (v d)), ⟨rfl, by omega, Or.inr (Or.inr (Or.inr ⟨Or.inr rfl, sa, hEB.setD 5⟩))⟩, rfl⟩)
    · obtain ⟨k0, k1, k2⟩ := hE.cells
      have HS : Hid (QEnd w wr g cap m1 m2 T0 T2 T4 v0 v2 v4 ⟨#[226, 128, 156]⟩ ⟨#[226, 128, 157]⟩) := Lib.hid ⟨sa, hE⟩
      clear hE
      go_wp2_with fail
      go_ret
      exact ⟨rfl, HS.out⟩

/-- What stands at the begin of round i. -/
def SQ39 (w wr : World) (g cap m1 m2 T0 T2 T4 : Nat) (v0 v2 v4 : Value) (i : Nat) : Prop :=
  (i = 0 ∧ Em w wr g 5 cap w.heap.size (w.heap.size + 1) m1 m2 0 [.iface T0 v0, .iface 190 (.pointer (some ⟨m1, 0, none⟩)), .iface T2 v2, .iface 190 (.pointer (some ⟨m2, 0, none⟩)), .iface T4 v4] (stk4 sNil) #[.string ⟨#[39]⟩, .bool true, .bool false, .int .i64 0, .int .i64 1] #[.string ⟨#[39]⟩, .bool false, .bool true, .int .i64 0, .int .i64 1]) ∨ (i = 1 ∧ Em w wr g 5 cap w.heap.size (w.heap.size + 1) m1 m2 1 [.iface T0 v0, .iface 190 (.pointer (some ⟨m1, 0, none⟩)), .iface T2 v2, .iface 190 (.pointer (some ⟨m2, 0, none⟩)), .iface T4 v4] (stk4 sNil) #[.string ⟨#[39]⟩, .bool true, .bool false, .int .i64 0, .int .i64 1] #[.string ⟨#[39]⟩, .bool false, .bool true, .int .i64 0, .int .i64 1]) ∨
  ((i = 2 ∨ i = 3) ∧ ∃ sg sc, 1 ≤ sc ∧ w.heap.size ≤ sg ∧ Em w wr g 5 cap w.heap.size (w.heap.size + 1) m1 m2 i [.iface T0 v0, .iface 190 (.pointer (some ⟨m1, 0, none⟩)), .iface T2 v2, .iface 190 (.pointer (some ⟨m2, 0, none⟩)), .iface T4 v4] (stk4 (.slice (some ⟨sg, 0, none⟩) 1 sc)) #[.string ⟨#[226, 128, 153]⟩, .bool true, .bool false, .int .i64 1, .int .i64 1] #[.string ⟨#[39]⟩, .bool false, .bool true, .int .i64 0, .int .i64 1] ∧ wr.ownsRow 0 190 1 (.slice (some ⟨sg, 0, none⟩) 1 sc) 1 [.pointer (some ⟨m1, 0, none⟩)]) ∨
  ((i = 4 ∨ i = 5) ∧ ∃ sa, Em w wr g 5 cap w.heap.size (w.heap.size + 1) m1 m2 i [.iface T0 v0, .iface 190 (.pointer (some ⟨m1, 0, none⟩)), .iface T2 v2, .iface 190 (.pointer (some ⟨m2, 0, none⟩)), .iface T4 v4] (sa) #[.string ⟨#[226, 128, 152]⟩, .bool true, .bool false, .int .i64 1, .int .i64 1] #[.string ⟨#[226, 128, 153]⟩, .bool false, .bool true, .int .i64 0, .int .i64 1])

set_option maxRecDepth 100000 in
set_option maxHeartbeats 20000000 in
theorem emph_quote39 (q : Value) (g cap m1 m2 T0 T2 T4 : Nat) (v0 v2 v4 : Value) (w : World)
    (hown : w.ownsRow 0 132 1 (.slice (some ⟨g, 0, none⟩) 5 cap) 5 [.iface T0 v0, .iface 190 (.pointer (some ⟨m1, 0, none⟩)), .iface T2 v2, .iface 190 (.pointer (some ⟨m2, 0, none⟩)), .iface T4 v4])
    (h0 : Quiet T0) (h2 : Quiet T2) (h4 : Quiet T4) (hM1 : Blk w m1 #[.string ⟨#[39]⟩, .bool true, .bool false, .int .i64 0, .int .i64 1] 192) (hM2 : Blk w m2 #[.string ⟨#[39]⟩, .bool false, .bool true, .int .i64 0, .int .i64 1] 192) (hm12 : m1 ≠ m2) (_hgw : g < w.heap.size) :
    Calls Tryz.prog 91 #[q, .slice (some ⟨g, 0, none⟩) 0 cap, .slice (some ⟨g, 0, none⟩) 5 cap] w fun e w' => e = .returned (.slice (some ⟨g, 0, none⟩) 5 cap) ∧ QEnd w w' g cap m1 m2 T0 T2 T4 v0 v2 v4 ⟨#[226, 128, 152]⟩ ⟨#[226, 128, 153]⟩ := by
  have hcap : 5 ≤ cap := by
    rcases hown.2 with ⟨h, _⟩ | ⟨_, _, _, h, _, _, hc, _⟩
    · cases h
    · cases h; exact hc
  go_enter Tryz.func91, Tryz.ntmps91
  go_wp2_with fail
  go_step3
  go_wp2_with fail
  go_step3
  go_wp2_with fail
  generalize hW : (World.alloc _ _ : World) = W
  have hS : Same w W := by subst hW; exact ((Mods.refl _ w).alloc _).alloc _
  have hD : Blk W w.heap.size #[.slice (some ⟨g, 0, none⟩) 0 cap] 88 := by subst hW; exact (Blk.newAt _ _ rfl).alloc _
  have hK : Blk W (w.heap.size + 1) (stk4 sNil) 210 := by subst hW; exact Blk.newAt _ _ (by simp)
  clear hW
  have hE : Em w W g 5 cap w.heap.size (w.heap.size + 1) m1 m2 0 [.iface T0 v0, .iface 190 (.pointer (some ⟨m1, 0, none⟩)), .iface T2 v2, .iface 190 (.pointer (some ⟨m2, 0, none⟩)), .iface T4 v4] (stk4 sNil) #[.string ⟨#[39]⟩, .bool true, .bool false, .int .i64 0, .int .i64 1] #[.string ⟨#[39]⟩, .bool false, .bool true, .int .i64 0, .int .i64 1] := ⟨hS.mono (fun _ _ x => absurd x (fun x => x)), Nat.le_refl _, Nat.le_succ _, hD, hK, ownsRow_keep hown hS (fun _ _ x => x), hS.blk hM1, hS.blk hM2, by omega⟩
  clear hD hK hS hown hM1 hM2
  refine wp_loop_ghost_k (fun m a wr => ∃ (i : Nat) (v : Nat → Value), (m = 5 - i ∧ i ≤ 5 ∧ SQ39 w wr g cap m1 m2 T0 T2 T4 v0 v2 v4 i) ∧
    a = ⟨#[q, .slice (some ⟨g, 0, none⟩) 0 cap, .slice (some ⟨g, 0, none⟩) 5 cap, undef, .pointer (some ⟨w.heap.size, 0, none⟩), undef, .slice none 0 0, .pointer (some ⟨w.heap.size + 1, 0, none⟩), .func (.func 129) #[] #[], .func (.func 130) #[] #[.pointer (some ⟨w.heap.size + 1, 0, none⟩), .pointer (some ⟨w.heap.size, 0, none⟩)], .int .i64 i, v 11, v 12, v 13, v 14, v 15, v 16, v 17, v 18, v 19, v 20, v 21, .func (.func 130) #[] #[.pointer (some ⟨w.heap.size + 1, 0, none⟩), .pointer (some ⟨w.heap.size, 0, none⟩)], v 23, v 24, v 25, v 26, v 27, v 28, v 29, v 30, v 31, v 32, v 33, v 34, v 35, v 36, v 37, v 38, v 39, v 40, v 41, v 42, v 43, v 44, v 45, v 46, v 47, v 48, v 49, v 50, v 51, v 52, v 53, v 54, v 55, v 56, v 57, v 58, v 59, v 60, v 61, v 62, v 63, v 64, v 65, v 66, v 67, v 68, v 69, v 70, v 71, v 72, v 73, v 74, v 75, v 76, v 77, v 78, v 79, v 80, v 81, v 82, v 83, v 84, v 85, v 86, v 87, v 88, v 89, v 90, v 91, v 92, v 93, v 94, v 95, v 96, v 97, v 98, v 99, v 100, v 101, v 102, v 103, v 104, v 105, v 106, v 107, v 108, v 109, v 110, v 111, v 112, v 113, v 114, v 115, v 116, v 117, v 118, v 119, v 120, v 121, v 122, v 123, v 124, v 125, v 126, v 127, v 128, v 129, v 130, v 131, v 132, v 133, v 134, v 135, v 136, v 137, v 138, v 139, v 140, v 141, v 142, v 143, v 144, v 145, v 146, v 147, v 148, v 149, v 150, v 151, v 152, v 153, v 154, v 155, v 156, v 157, v 158, v 159, v 160, v 161, v 162, v 163, v 164, v 165, v 166, v 167, v 168, v 169, v 170, v 171, v 172, v 173, v 174, v 175, v 176, v 177, v 178, v 179, v 180, v 181, v 182, v 183, v 184, v 185, v 186, v 187, v 188, v 189, v 190, v 191, v 192, v 193, v 194, v 195, v 196, v 197, v 198, v 199, v 200, v 201, v 202, v 203, v 204, v 205, v 206, v 207, v 208, v 209, v 210, v 211, v 212, v 213, v 214, v 215, v 216, v 217, v 218, v 219, v 220, v 221, v 222, v 223, v 224, v 225, v 226, v 227, v 228, v 229, v 230, v 231, v 232, v 233, v 234, v 235, v 236, v 237, v 238, v 239, v 240, v 241, v 242, v 243, v 244, v 245, v 246, v 247, v 248, v 249, v 250, v 251, v 252, v 253, v 254, v 255, v 256, v 257, v 258, v 259, v 260, v 261, v 262, v 263, v 264, v 265, v 266, v 267, v 268, v 269, v 270, v 271, v 272, v 273, v 274, v 275, v 276, v 277, v 278, v 279, v 280, v 281, v 282, v 283, v 284, v 285, v 286, v 287, v 288, v 289, v 290, v 291, v 292, v 293, v 294, v 295, v 296, v 297, v 298, v 299, v 300, v 301, v 302, v 303, v 304, v 305, v 306, v 307, v 308, v 309, v 310, v 311, v 312, v 313, v 314, v 315, v 316, v 317, v 318, v 319, v 320, v 321, v 322, v 323, v 324, v 325, v 326, v 327, v 328, v 329, v 330, v 331, v 332, v 333, v 334, v 335, v 336, v 337, v 338, v 339, v 340, v 341, v 342, v 343, v 344, v 345, v 346, v 347, v 348, v 349, v 350, v 351, v 352, v 353, v 354, v 355, v 356, v 357, v 358, v 359, v 360, v 361, v 362, v 363, v 364, v 365, v 366, v 367, v 368, v 369, v 370, v 371, v 372, v 373, v 374, v 375, v 376, v 377, v 378, v 379, v 380, v 381, v 382, v 383, v 384, v 385, v 386, v 387, v 388, v 389, v 390, v 391, v 392, v 393, v 394, v 395, v 396, v 397, v 398, v 399, v 400, v 401, v 402, v 403, v 404, v 405, v 406, v 407, v 408, v 409, v 410, v 411, v 412, v 413, v 414, v 415, v 416, v 417, v 418, v 419, v 420, v 421, v 422, v 423, v 424, v 425, v 426, v 427, v 428, v 429, v 430, v 431, v 432, v 433, v 434, v 435], []⟩) 5 ⟨0, fun _ => undef, ⟨rfl, Nat.zero_le _, Or.inl ⟨rfl, hE⟩⟩, rfl⟩ ?_
  clear hE
  intro gk a wr hinv
  obtain ⟨i, v, ⟨rfl, hi, hst⟩, rfl⟩ := hinv
  intro J K hJ hK
  rcases hst with ⟨rfl, hE⟩ | ⟨rfl, hE⟩ | ⟨hi23, sg, sc, hsc, hsg, hE, hsr⟩ | ⟨hi45, sa, hE⟩
  · skip
    obtain ⟨k0, k1, k2⟩ := hE.cells
    have s0 : wr.cell? ⟨g, 0, none⟩ = some (.iface T0 v0) := hE.src 0 _ rfl
    have q1 := h0.open_
    have q2 := h0.emph
    have hSd : ∀ o, Same wr ((wr.alloc o).drew) := fun o => ((Mods.refl (fun _ => False) wr).alloc o).drew
    go_wp2_with fail
    go_region_law (refine st_room_inl rfl (.tmp 55) (.tmp 60) rfl g 0 5 cap _ (ownsRow_keep hE.row (hSd _) (fun _ _ x => x)) (by omega) (.iface T0 v0) rfl wr.heap.size 1 rfl rfl ((Blk.drew (Blk.newAt _ _ rfl)).cell 0) ?_; intro wB hmB hrB; have hEB := hE.app (hSd _) hmB hrB; obtain ⟨k0', k1', k2'⟩ := hEB.cells)
    all_goals
      go_wp2_with fail
      refine Handed.intro (5 - (0 + 1)) (by omega) (hJ _ _ _ ⟨0 + 1, (fun d => cond (Nat.ble 11 d && Nat.ble d 61) (cond (Nat.ble d 42) (cond (Nat.ble d 26) (List.getD [_, _, _, _, _, _, _, _, _, _, _, undef, _, _, _, _] (d - 11) undef) (List.getD [_, _, _, _, _, _, _, _, _, _, _, _, _, _, _, _] (d - 27) undef)) (cond (Nat.ble d 58) (List.getD [_, _, _, _, _, _, _, _, _, _, _, _, _, _, _, _] (d - 43) undef) (List.getD [_, _, _] (d - 59) undef))) (v d)), ⟨rfl, by omega, Or.inr (Or.inl ⟨rfl, hEB.setD 1⟩)⟩, rfl⟩)
  · obtain ⟨k0, k1, k2⟩ := hE.cells
    have s0 : wr.cell? ⟨g, 1, none⟩ = some (.iface 190 (.pointer (some ⟨m1, 0, none⟩))) := hE.src 1 _ rfl
    have q1 := as_open_mark
    have q2 := as_mark_yes
    obtain ⟨x0, f0, _⟩ := hE.m1c 0
    have x1 := (hE.m1c 1).1
    have x2 := (hE.m1c 2).1
    obtain ⟨x3, x4, x5⟩ := hE.m1c 3
    have HE := Lib.hid hE
    clear hE
    go_wp2_with fail
    refine (stackOf_n 39 4 wr (Or.inr (Or.inr ⟨rfl, rfl⟩))).mono ?_
    rintro e w' ⟨rfl, rfl⟩
    go_upto_region 57 with (fail)
    have hE0 := HE.out.setI hm12 0 (.string ⟨#[226, 128, 153]⟩)
    generalize (World.setCell wr _ _ : World) = w0 at hE0 ⊢
    clear k0 k1 k2 s0 q1 q2 x0 x1 x2 x3 x4 x5 f0 HE
    obtain ⟨k0, k1, k2⟩ := hE0.cells
    have x1 := (hE0.m1c 1).1
    obtain ⟨x3, x4, x5⟩ := hE0.m1c 3
    have HE0 := Lib.hid hE0
    clear hE0
    go_upto_region 59 with (fail)
    have hE1 := HE0.out.setI hm12 3 (.int .i64 1)
    generalize (World.setCell w0 _ _ : World) = w1 at hE1 ⊢
    clear k0 k1 k2 x1 x3 x4 x5 HE0
    obtain ⟨k0, k1, k2⟩ := hE1.cells
    go_wp2_with (at_builtin; refine wl_room_inl rfl (.tmp 415) (.tmp 418) rfl g 1 5 cap _ (ownsRow_keep hE1.row ((Mods.refl (fun _ => False) w1).alloc _) (fun _ _ x => x)) (by omega) (.iface 190 (.pointer (some ⟨m1, 0, none⟩))) rfl w1.heap.size 1 rfl rfl ((Blk.newAt _ _ rfl).cell 0) ?_)
    intro wB hmB hrB
    have hEB := hE1.app ((Mods.refl (fun _ => False) w1).alloc _) hmB hrB
    clear k0 k1 k2 hmB hrB hE1
    obtain ⟨k0, k1, k2⟩ := hEB.cells
    go_upto_region 60 with (fail)
    have hE2 := hEB.setD 2
    generalize (World.setCell wB _ _ : World) = w2 at hE2 ⊢
    clear k0 k1 k2 hEB
    obtain ⟨y0, y1, y2⟩ := hE2.sc 4
    have y0' : w2.cell? ⟨w.heap.size + 1, 4, none⟩ = some (.slice none 0 0) := y0
    clear y0
    go_wp2_with (at_builtin; refine ap_mark rfl (.tmp 423) (.tmp 425) rfl (.slice none 0 0) 0 [] rfl ⟨rfl, Or.inl ⟨rfl, rfl⟩⟩ w2.heap.size 1 (some ⟨m1, 0, none⟩) rfl ((Blk.newAt _ _ rfl).cell 0) (by omega) ?_)
    intro sg sc w3 hrow3 hgrow hloc
    have hS3 : Same w2 w3 := ((Mods.refl (fun _ => False) w2).alloc _).trans ((grown_mods hgrow).mono (fun _ _ h => by cases h))
    have hE3 := hE2.same hS3
    have hz := hE2.mods.size
    have hsg9 : w.heap.size ≤ sg := by
      rcases hloc with h | h
      · cases h
      · have h9 : sg = w2.heap.size + 1 := by simpa using h
        omega
    clear y0' y1 y2 hgrow hloc hS3 hE2
    obtain ⟨_, y1, y2⟩ := hE3.sc 4
    have hsc1 : 1 ≤ sc := by
      rcases hrow3.2 with ⟨h, _⟩ | ⟨_, _, _, h, _, _, hc, _⟩
      · cases h
      · cases h; exact hc
    go_wp2_with fail
    have hE4 := hE3.setS 4 (.slice (some ⟨sg, 0, none⟩) (0 + 1) sc)
    have hr4 := row_set3 hE3 hrow3 4 (.slice (some ⟨sg, 0, none⟩) (0 + 1) sc)
    refine Handed.intro (5 - (1 + 1)) (by omega) (hJ _ _ _ ⟨1 + 1, (fun d => cond (Nat.ble 11 d && Nat.ble d 434) (cond (Nat.ble d 218) (cond (Nat.ble d 106) (cond (Nat.ble d 58) (cond (Nat.ble d 26) (List.getD [_, _, _, _, _, _, _, _, _, _, _, undef, _, _, _, _] (d - 11) undef) (cond (Nat.ble d 42) (List.getD [_, _, _, _, _, _, _, _, _, _, _, _, _, _, _, _] (d - 27) undef) (List.getD [_, _, _, _, _, _, _, _, _, _, _, _, _, _, _, _] (d - 43) undef))) (cond (Nat.ble d 74) (List.getD [_, _, _, _, _, _, _, _, _, _, _, _, _, _, _, _] (d - 59) undef) (cond (Nat.ble d 90) (List.getD [_, _, _, _, _, _, _, _, _, _, _, _, _, _, _, _] (d - 75) undef) (List.getD [_, _, _, _, _, _, _, _, _, _, _, _, _, _, _, _] (d - 91) undef)))) (cond (Nat.ble d 154) (cond (Nat.ble d 122) (List.getD [_, _, _, _, _, _, _, _, _, _, _, _, _, _, _, _] (d - 107) undef) (cond (Nat.ble d 138) (List.getD [_, _, _, _, _, _, _, _, _, _, _, _, _, _, _, _] (d - 123) undef) (List.getD [_, _, _, _, _, _, _, _, _, _, _, _, _, _, _, _] (d - 139) undef))) (cond (Nat.ble d 186) (cond (Nat.ble d 170) (List.getD [_, _, _, _, _, _, _, _, _, _, _, _, _, _, _, _] (d - 155) undef) (List.getD [_, _, _, _, _, _, _, _, _, _, _, _, _, _, _, _] (d - 171) undef)) (cond (Nat.ble d 202) (List.getD [_, _, _, _, _, _, _, _, _, _, _, _, _, _, _, _] (d - 187) undef) (List.getD [_, _, _, _, _, _, _, _, _, _, _, _, _, _, _, _] (d - 203) undef))))) (cond (Nat.ble d 330) (cond (Nat.ble d 266) (cond (Nat.ble d 234) (List.getD [_, _, _, _, _, _, _, _, _, _, _, _, _, _, _, _] (d - 219) undef) (cond (Nat.ble d 250) (List.getD [_, _, _, _, _, _, _, _, _, _, _, _, _, _, _, _] (d - 235) undef) (List.getD [_, _, _, _, _, _, _, _, _, _, _, _, _, _, _, _] (d - 251) undef))) (cond (Nat.ble d 298) (cond (Nat.ble d 282) (List.getD [_, _, _, _, _, _, _, _, _, _, _, _, _, _, _, _] (d - 267) undef) (List.getD [_, _, _, _, _, _, _, _, _, _, _, _, _, _, _, _] (d - 283) undef)) (cond (Nat.ble d 314) (List.getD [_, _, _, _, _, _, _, _, _, _, _, _, _, _, _, _] (d - 299) undef) (List.getD [_, _, _, _, _, _, _, _, _, _, _, _, _, _, _, _] (d - 315) undef)))) (cond (Nat.ble d 378) (cond (Nat.ble d 346) (List.getD [_, _, _, _, _, _, _, _, _, _, _, _, _, _, _, _] (d - 331) undef) (cond (Nat.ble d 362) (List.getD [_, _, _, _, _, _, _, _, _, _, _, _, _, _, _, _] (d - 347) undef) (List.getD [_, _, _, _, _, _, _, _, _, _, _, _, _, _, _, _] (d - 363) undef))) (cond (Nat.ble d 410) (cond (Nat.ble d 394) (List.getD [_, _, _, _, _, _, _, _, _, _, _, _, _, _, _, _] (d - 379) undef) (List.getD [_, _, _, _, _, _, _, _, _, _, _, _, _, _, _, _] (d - 395) undef)) (cond (Nat.ble d 426) (List.getD [_, _, _, _, _, _, _, _, _, _, _, _, _, _, _, _] (d - 411) undef) (List.getD [_, _, _, _, _, _, _, _] (d - 427) undef)))))) (v d)), ⟨rfl, by omega, Or.inr (Or.inr (Or.inl ⟨Or.inl rfl, sg, sc, hsc1, hsg9, hE4, hr4⟩))⟩, rfl⟩)
  · rcases hi23 with rfl | rfl
    · skip
      obtain ⟨k0, k1, k2⟩ := hE.cells
      have s0 : wr.cell? ⟨g, 2, none⟩ = some (.iface T2 v2) := hE.src 2 _ rfl
      have q1 := h2.open_
      have q2 := h2.emph
      have hSd : ∀ o, Same wr ((wr.alloc o).drew) := fun o => ((Mods.refl (fun _ => False) wr).alloc o).drew
      go_wp2_with fail
      go_region_law (refine st_room_inl rfl (.tmp 55) (.tmp 60) rfl g 2 5 cap _ (ownsRow_keep hE.row (hSd _) (fun _ _ x => x)) (by omega) (.iface T2 v2) rfl wr.heap.size 1 rfl rfl ((Blk.drew (Blk.newAt _ _ rfl)).cell 0) ?_; intro wB hmB hrB; have hEB := hE.app (hSd _) hmB hrB; obtain ⟨k0', k1', k2'⟩ := hEB.cells)
      all_goals
        go_wp2_with fail
        refine Handed.intro (5 - (2 + 1)) (by omega) (hJ _ _ _ ⟨2 + 1, (fun d => cond (Nat.ble 11 d && Nat.ble d 61) (cond (Nat.ble d 42) (cond (Nat.ble d 26) (List.getD [_, _, _, _, _, _, _, _, _, _, _, undef, _, _, _, _] (d - 11) undef) (List.getD [_, _, _, _, _, _, _, _, _, _, _, _, _, _, _, _] (d - 27) undef)) (cond (Nat.ble d 58) (List.getD [_, _, _, _, _, _, _, _, _, _, _, _, _, _, _, _] (d - 43) undef) (List.getD [_, _, _] (d - 59) undef))) (v d)), ⟨rfl, by omega, Or.inr (Or.inr (Or.inl ⟨Or.inr rfl, sg, sc, hsc, hsg, hEB.setD 3, row_setD hEB (row_app hE hsr (hSd _) hmB) _⟩))⟩, rfl⟩)
    · obtain ⟨k0, k1, k2⟩ := hE.cells
      have s0 : wr.cell? ⟨g, 3, none⟩ = some (.iface 190 (.pointer (some ⟨m2, 0, none⟩))) := hE.src 3 _ rfl
      have s1 : wr.cell? ⟨g, 1, none⟩ = some (.iface 190 (.pointer (some ⟨m1, 0, none⟩))) := hE.src 1 _ rfl
      have q1 := as_open_mark
      have q2 := as_mark_yes
      obtain ⟨x0, xf, xl⟩ := hE.m2c 0
      have x1 := (hE.m2c 1).1
      have x2 := (hE.m2c 2).1
      obtain ⟨z0, zf, zl⟩ := hE.m1c 0
      have z3 := (hE.m1c 3).1
      have y2 : wr.cell? ⟨w.heap.size + 1, 4, none⟩ = some (.slice (some ⟨sg, 0, none⟩) 1 sc) := (hE.sc 4).1
      obtain ⟨_, _, he, _, _, hrc⟩ := ownsRow_form hsr (by omega)
      cases he
      have y3 : wr.cell? ⟨sg, 0, none⟩ = some (.pointer (some ⟨m1, 0, none⟩)) := hrc 0 _ rfl
      have HE := Lib.hid hE
      clear hE hrc
      have u0 : (((⟨#[39]⟩ : ByteArray)[0]'(by decide)).toNat : Int) = 39 := rfl
      go_wp2_with fail
      go_step3
      go_wp2_with fail
      refine (stackOf_n 39 4 wr (Or.inr (Or.inr ⟨rfl, rfl⟩))).mono ?_
      rintro e w' ⟨rfl, rfl⟩
      go_wp2_with fail
      go_step3
      go_wp2_with fail
      refine wp_loop_rounds 2 ?_
      rw [rounds_succ]
      go_wp2_with fail
      refine wp_loop_rounds 1 ?_
      rw [rounds_succ]
      go_wp2_with fail
      go_quiet (fail)
      go_wp2_with fail
      go_quiet (fail)
      go_wp2_with fail
      generalize hX : (World.drewN _ _ : World) = X
      have hSX : Same wr X := by subst hX; exact (Mods.refl _ wr).drewN _
      have hE1 := HE.out.same hSX
      have hsr1 := ownsRow_keep hsr hSX (fun _ _ x => x)
      clear hX HE hSX k0 k1 k2 s0 s1 q1 q2 x0 xf xl x1 x2 z0 zf zl z3 y2 y3
      obtain ⟨k0, k1, k2⟩ := hE1.cells
      have s1 : X.cell? ⟨g, 1, none⟩ = some (.iface 190 (.pointer (some ⟨m1, 0, none⟩))) := hE1.src 1 _ rfl
      have q3 := as_mark_must
      obtain ⟨x0, xf, xl⟩ := hE1.m2c 0
      obtain ⟨z0, zf, zl⟩ := hE1.m1c 0
      have z3 := (hE1.m1c 3).1
      have c1 : (1 : Int) < 3 := by omega
      have HE1 := Lib.hid hE1
      have HSr := Lib.hid hsr1
      clear hE1 hsr1
      go_region
      go_upto_region 30 with (fail)
      have hm4 := two_mods X m1 m2 (.string ⟨#[226, 128, 152]⟩) (.string ⟨#[226, 128, 153]⟩)
      have hE2 := (HE1.out.setI hm12 0 (.string ⟨#[226, 128, 152]⟩)).setJ hm12 0 (.string ⟨#[226, 128, 153]⟩)
      generalize (World.setCell (World.setCell X _ _) _ _ : World) = Y at hm4 hE2 ⊢
      have hSr2 := two_row HE1.out hm4 HSr.out (by decide)
      clear hm4 HE1 HSr k0 k1 k2 s1 q3 x0 xf xl z0 zf zl z3 c1
      have hSY : Same Y Y.drew := (Mods.refl (fun _ => False) Y).drew
      generalize (World.drew Y : World) = Z at hSY ⊢
      have hE3 := hE2.same hSY
      have hSr3 := ownsRow_keep hSr2 hSY (fun _ _ x => x)
      clear hE2 hSr2 hSY
      obtain ⟨k0, k1, k2⟩ := hE3.cells
      have HE3 := Lib.hid hE3
      have HSr := Lib.hid hSr3
      clear hE3 hSr3
      go_wp2_with (at_builtin; refine wl_room_inl rfl (.tmp 243) (.tmp 246) rfl g 3 5 cap _ (ownsRow_keep HE3.out.row ((Mods.refl (fun _ => False) Z).alloc _) (fun _ _ x => x)) (by omega) (.iface 190 (.pointer (some ⟨m2, 0, none⟩))) rfl Z.heap.size 1 rfl rfl ((Blk.newAt _ _ rfl).cell 0) ?_)
      intro wB hmB hrB
      have hEB := HE3.out.app ((Mods.refl (fun _ => False) Z).alloc _) hmB hrB
      clear k0 k1 k2 hmB hrB HE3 HSr
      obtain ⟨k0, k1, k2⟩ := hEB.cells
      have HEB := Lib.hid hEB
      clear hEB
      go_upto_region 31 with (fail)
      have hE5 := HEB.out.setD 4
      generalize (World.setCell wB _ _ : World) = U at hE5 ⊢
      clear k0 k1 k2 HEB
      obtain ⟨y0, y1, y2⟩ := hE5.sc 4
      have y0' : U.cell? ⟨w.heap.size + 1, 4, none⟩ = some (.slice (some ⟨sg, 0, none⟩) 1 sc) := y0
      have c1 : (0 : Int) ≤ sc := by omega
      have HE5 := Lib.hid hE5
      clear y0 hE5
      go_wp2_with fail
      rw [Exit.noGoto_exit]
      go_wp2_with fail
      refine Handed.intro (5 - (3 + 1)) (by omega) (hJ _ _ _ ⟨3 + 1, (fun d => cond (Nat.ble 11 d && Nat.ble d 434) (cond (Nat.ble d 218) (cond (Nat.ble d 106) (cond (Nat.ble d 58) (cond (Nat.ble d 26) (List.getD [_, _, _, _, _, _, _, _, _, _, _, undef, _, _, _, _] (d - 11) undef) (cond (Nat.ble d 42) (List.getD [_, _, _, _, _, _, _, _, _, _, _, _, _, _, _, _] (d - 27) undef) (List.getD [_, _, _, _, _, _, _, _, _, _, _, _, _, _, _, _] (d - 43) undef))) (cond (Nat.ble d 74) (List.getD [_, _, _, _, _, _, _, _, _, _, _, _, _, _, _, _] (d - 59) undef) (cond (Nat.ble d 90) (List.getD [_, _, _, _, _, _, _, _, _, _, _, _, _, _, _, _] (d - 75) undef) (List.getD [_, _, _, _, _, _, _, _, _, _, _, _, _, _, _, _] (d - 91) undef)))) (cond (Nat.ble d 154) (cond (Nat.ble d 122) (List.getD [_, _, _, _, _, _, _, _, _, _, _, _, _, _, _, _] (d - 107) undef) (cond (Nat.ble d 138) (List.getD [_, _, _, _, _, _, _, _, _, _, _, _, _, _, _, _] (d - 123) undef) (List.getD [_, _, _, _, _, _, _, _, _, _, _, _, _, _, _, _] (d - 139) undef))) (cond (Nat.ble d 186) (cond (Nat.ble d 170) (List.getD [_, _, _, _, _, _, _, _, _, _, _, _, _, _, _, _] (d - 155) undef) (List.getD [_, _, _, _, _, _, _, _, _, _, _, _, _, _, _, _] (d - 171) undef)) (cond (Nat.ble d 202) (List.getD [_, _, _, _, _, _, _, _, _, _, _, _, _, _, _, _] (d - 187) undef) (List.getD [_, _, _, _, _, _, _, _, _, _, _, _, _, _, _, _] (d - 203) undef))))) (cond (Nat.ble d 330) (cond (Nat.ble d 266) (cond (Nat.ble d 234) (List.getD [_, _, _, _, _, _, _, _, _, _, _, _, _, _, _, _] (d - 219) undef) (cond (Nat.ble d 250) (List.getD [_, _, _, _, _, _, _, _, _, _, _, _, _, _, _, _] (d - 235) undef) (List.getD [_, _, _, _, _, _, _, _, _, _, _, _, _, _, _, _] (d - 251) undef))) (cond (Nat.ble d 298) (cond (Nat.ble d 282) (List.getD [_, _, _, _, _, _, _, _, _, _, _, _, _, _, _, _] (d - 267) undef) (List.getD [_, _, _, _, _, _, _, _, _, _, _, _, _, _, _, _] (d - 283) undef)) (cond (Nat.ble d 314) (List.getD [_, _, _, _, _, _, _, _, _, _, _, _, _, _, _, _] (d - 299) undef) (List.getD [_, _, _, _, _, _, _, _, _, _, _, _, _, _, _, _] (d - 315) undef)))) (cond (Nat.ble d 378) (cond (Nat.ble d 346) (List.getD [_, _, _, _, _, _, _, _, _, _, _, _, _, _, _, _] (d - 331) undef) (cond (Nat.ble d 362) (List.getD [_, _, _, _, _, _, _, _, _, _, _, _, _, _, _, _] (d - 347) undef) (List.getD [_, _, _, _, _, _, _, _, _, _, _, _, _, _, _, _] (d - 363) undef))) (cond (Nat.ble d 410) (cond (Nat.ble d 394) (List.getD [_, _, _, _, _, _, _, _, _, _, _, _, _, _, _, _] (d - 379) undef) (List.getD [_, _, _, _, _, _, _, _, _, _, _, _, _, _, _, _] (d - 395) undef)) (cond (Nat.ble d 426) (List.getD [_, _, _, _, _, _, _, _, _, _, _, _, _, _, _, _] (d - 411) undef) (List.getD [_, _, _, _, _, _, _, _] (d - 427) undef)))))) (v d)), ⟨rfl, by omega, Or.inr (Or.inr (Or.inr ⟨Or.inl rfl, _, HE5.out.setS 4 (.slice (some ⟨sg, 0, none⟩) 0 sc)⟩))⟩, rfl⟩)
  · rcases hi45 with rfl | rfl
    · skip
      obtain ⟨k0, k1, k2⟩ := hE.cells
      have s0 : wr.cell? ⟨g, 4, none⟩ = some (.iface T4 v4) := hE.src 4 _ rfl
      have q1 := h4.open_
      have q2 := h4.emph
      have hSd : ∀ o, Same wr ((wr.alloc o).drew) := fun o => ((Mods.refl (fun _ => False) wr).alloc o).drew
      go_wp2_with fail
      go_region_law (refine st_room_inl rfl (.tmp 55) (.tmp 60) rfl g 4 5 cap _ (ownsRow_keep hE.row (hSd _) (fun _ _ x => x)) (by omega) (.iface T4 v4) rfl wr.heap.size 1 rfl rfl ((Blk.drew (Blk.newAt _ _ rfl)).cell 0) ?_; intro wB hmB hrB; have hEB := hE.app (hSd _) hmB hrB; obtain ⟨k0', k1', k2'⟩ := hEB.cells)
      all_goals
        go_wp2_with fail
        refine Handed.intro (5 - (4 + 1)) (by omega) (hJ _ _ _ ⟨4 + 1, (fun d => cond (Nat.ble 11 d && Nat.ble d 61) (cond (Nat.ble d 42) (cond (Nat.ble d 26) (List.getD [_, _, _, _, _, _, _, _, _, _, _, undef, _, _, _, _] (d - 11) undef) (List.getD [_, _, _, _, _, _, _, _, _, _, _, _, _, _, _, _] (d - 27) undef)) (cond (Nat.ble d 58) (List.getD [_, _, _, _, _, _, _, _, _, _, _, _, _, _, _, _] (d - 43) undef) (List.getD [_, _, _] (d - 59) undef))) (v d)), ⟨rfl, by omega, Or.inr (Or.inr (Or.inr ⟨Or.inr rfl, sa, hEB.setD 5⟩))⟩, rfl⟩)
    · obtain ⟨k0, k1, k2⟩ := hE.cells
      have HS : Hid (QEnd w wr g cap m1 m2 T0 T2 T4 v0 v2 v4 ⟨#[226, 128, 152]⟩ ⟨#[226, 128, 153]⟩) := Lib.hid ⟨sa, hE⟩
      clear hE
      go_wp2_with fail
      go_ret
      exact ⟨rfl, HS.out⟩

end Go.Proofs.YtdnlfdppjfjncaaGreatDoor

/- emph of an apostrophe within a word: the walk. -/
namespace Go.Proofs.YtdnlfdppjfjncaaGreatDoor
open Go Go.RowKit Go.Proofs

theorem Em.setE {w wr : World} {g n cap D S m d : Nat} {xs : List Value} {sa a : Array Value} (h : Em w wr g n cap D S m m d xs sa a a) (j : Nat) (v : Value) : Em w (wr.setCell ⟨m, j, none⟩ v) g n cap D S m m d xs sa (a.setIfInBounds j v) (a.setIfInBounds j v) := by
  have hm : Mods (fun k => k = m) wr (wr.setCell ⟨m, j, none⟩ v) := (Mods.refl (fun k => k = m) wr).setCell (p := ⟨m, j, none⟩) (fun _ => rfl) _
  obtain ⟨cur, hcur⟩ := h.gblk
  exact ⟨h.mods.then hm (fun b hb x => Or.inr (Or.inl x)), h.fD, h.fS, h.D.keep1 hm (h.D.ne_of_type h.b1 (by decide)), h.S.keep1 hm (h.S.ne_of_type h.b1 (by decide)), ownsRow_keep h.row hm (fun b hb x => by cases hb; exact hcur.ne_of_type h.b1 (by decide) x), h.b1.set_same j _, h.b1.set_same j _, h.pos⟩

/-- What stands at the begin of round i. -/
def SA (w wr : World) (g cap m T0 T2 : Nat) (v0 v2 : Value) (i : Nat) : Prop :=
  ((i = 0 ∨ i = 1) ∧ Em w wr g 3 cap w.heap.size (w.heap.size + 1) m m i [.iface T0 v0, .iface 190 (.pointer (some ⟨m, 0, none⟩)), .iface T2 v2] #[sNil, sNil, sNil, sNil, sNil] #[.string ⟨#[39]⟩, .bool false, .bool true, .int .i64 0, .int .i64 1] #[.string ⟨#[39]⟩, .bool false, .bool true, .int .i64 0, .int .i64 1]) ∨ ((i = 2 ∨ i = 3) ∧ Em w wr g 3 cap w.heap.size (w.heap.size + 1) m m i [.iface T0 v0, .iface 156 (.pointer (some ⟨m, 0, none⟩)), .iface T2 v2] #[sNil, sNil, sNil, sNil, sNil] #[.string ⟨#[226, 128, 153]⟩, .bool false, .bool true, .int .i64 0, .int .i64 1] #[.string ⟨#[226, 128, 153]⟩, .bool false, .bool true, .int .i64 0, .int .i64 1])
/-- What emph leaves. -/
def AEnd (w w' : World) (g cap m T0 T2 : Nat) (v0 v2 : Value) : Prop := ∃ sa, Em w w' g 3 cap w.heap.size (w.heap.size + 1) m m 3 [.iface T0 v0, .iface 156 (.pointer (some ⟨m, 0, none⟩)), .iface T2 v2] sa #[.string ⟨#[226, 128, 153]⟩, .bool false, .bool true, .int .i64 0, .int .i64 1] #[.string ⟨#[226, 128, 153]⟩, .bool false, .bool true, .int .i64 0, .int .i64 1]

set_option maxRecDepth 100000 in
set_option maxHeartbeats 20000000 in
theorem emph_apos (q : Value) (g cap m T0 T2 : Nat) (v0 v2 : Value) (w : World)
    (hown : w.ownsRow 0 132 1 (.slice (some ⟨g, 0, none⟩) 3 cap) 3 [.iface T0 v0, .iface 190 (.pointer (some ⟨m, 0, none⟩)), .iface T2 v2])
    (h0 : Quiet T0) (h2 : Quiet T2) (hM : Blk w m #[.string ⟨#[39]⟩, .bool false, .bool true, .int .i64 0, .int .i64 1] 192) (_hgw : g < w.heap.size) :
    Calls Tryz.prog 91 #[q, .slice (some ⟨g, 0, none⟩) 0 cap, .slice (some ⟨g, 0, none⟩) 3 cap] w fun e w' => e = .returned (.slice (some ⟨g, 0, none⟩) 3 cap) ∧ AEnd w w' g cap m T0 T2 v0 v2 := by
  have hcap : 3 ≤ cap := by
    rcases hown.2 with ⟨h, _⟩ | ⟨_, _, _, h, _, _, hc, _⟩
    · cases h
    · cases h; exact hc
  go_enter Tryz.func91, Tryz.ntmps91
  go_wp2_with fail
  go_step3
  go_wp2_with fail
  go_step3
  go_wp2_with fail
  generalize hW : (World.alloc _ _ : World) = W
  have hS : Same w W := by subst hW; exact ((Mods.refl _ w).alloc _).alloc _
  have hD : Blk W w.heap.size #[.slice (some ⟨g, 0, none⟩) 0 cap] 88 := by subst hW; exact (Blk.newAt _ _ rfl).alloc _
  have hK : Blk W (w.heap.size + 1) #[sNil, sNil, sNil, sNil, sNil] 210 := by subst hW; exact Blk.newAt _ _ (by simp)
  clear hW
  have hE : Em w W g 3 cap w.heap.size (w.heap.size + 1) m m 0 [.iface T0 v0, .iface 190 (.pointer (some ⟨m, 0, none⟩)), .iface T2 v2] #[sNil, sNil, sNil, sNil, sNil] #[.string ⟨#[39]⟩, .bool false, .bool true, .int .i64 0, .int .i64 1] #[.string ⟨#[39]⟩, .bool false, .bool true, .int .i64 0, .int .i64 1] := ⟨hS.mono (fun _ _ x => absurd x (fun x => x)), Nat.le_refl _, Nat.le_succ _, hD, hK, ownsRow_keep hown hS (fun _ _ x => x), hS.blk hM, hS.blk hM, by omega⟩
  clear hD hK hS hown hM
  refine wp_loop_ghost_k (fun mm a wr => ∃ (i : Nat) (v : Nat → Value), (mm = 3 - i ∧ i ≤ 3 ∧ SA w wr g cap m T0 T2 v0 v2 i) ∧
    a = ⟨#[q, .slice (some ⟨g, 0, none⟩) 0 cap, .slice (some ⟨g, 0, none⟩) 3 cap, undef, .pointer (some ⟨w.heap.size, 0, none⟩), undef, .slice none 0 0, .pointer (some ⟨w.heap.size + 1, 0, none⟩), .func (.func 129) #[] #[], .func (.func 130) #[] #[.pointer (some ⟨w.heap.size + 1, 0, none⟩), .pointer (some ⟨w.heap.size, 0, none⟩)], .int .i64 i, v 11, v 12, v 13, v 14, v 15, v 16, v 17, v 18, v 19, v 20, v 21, .func (.func 130) #[] #[.pointer (some ⟨w.heap.size + 1, 0, none⟩), .pointer (some ⟨w.heap.size, 0, none⟩)], v 23, v 24, v 25, v 26, v 27, v 28, v 29, v 30, v 31, v 32, v 33, v 34, v 35, v 36, v 37, v 38, v 39, v 40, v 41, v 42, v 43, v 44, v 45, v 46, v 47, v 48, v 49, v 50, v 51, v 52, v 53, v 54, v 55, v 56, v 57, v 58, v 59, v 60, v 61, v 62, v 63, v 64, v 65, v 66, v 67, v 68, v 69, v 70, v 71, v 72, v 73, v 74, v 75, v 76, v 77, v 78, v 79, v 80, v 81, v 82, v 83, v 84, v 85, v 86, v 87, v 88, v 89, v 90, v 91, v 92, v 93, v 94, v 95, v 96, v 97, v 98, v 99, v 100, v 101, v 102, v 103, v 104, v 105, v 106, v 107, v 108, v 109, v 110, v 111, v 112, v 113, v 114, v 115, v 116, v 117, v 118, v 119, v 120, v 121, v 122, v 123, v 124, v 125, v 126, v 127, v 128, v 129, v 130, v 131, v 132, v 133, v 134, v 135, v 136, v 137, v 138, v 139, v 140, v 141, v 142, v 143, v 144, v 145, v 146, v 147, v 148, v 149, v 150, v 151, v 152, v 153, v 154, v 155, v 156, v 157, v 158, v 159, v 160, v 161, v 162, v 163, v 164, v 165, v 166, v 167, v 168, v 169, v 170, v 171, v 172, v 173, v 174, v 175, v 176, v 177, v 178, v 179, v 180, v 181, v 182, v 183, v 184, v 185, v 186, v 187, v 188, v 189, v 190, v 191, v 192, v 193, v 194, v 195, v 196, v 197, v 198, v 199, v 200, v 201, v 202, v 203, v 204, v 205, v 206, v 207, v 208, v 209, v 210, v 211, v 212, v 213, v 214, v 215, v 216, v 217, v 218, v 219, v 220, v 221, v 222, v 223, v 224, v 225, v 226, v 227, v 228, v 229, v 230, v 231, v 232, v 233, v 234, v 235, v 236, v 237, v 238, v 239, v 240, v 241, v 242, v 243, v 244, v 245, v 246, v 247, v 248, v 249, v 250, v 251, v 252, v 253, v 254, v 255, v 256, v 257, v 258, v 259, v 260, v 261, v 262, v 263, v 264, v 265, v 266, v 267, v 268, v 269, v 270, v 271, v 272, v 273, v 274, v 275, v 276, v 277, v 278, v 279, v 280, v 281, v 282, v 283, v 284, v 285, v 286, v 287, v 288, v 289, v 290, v 291, v 292, v 293, v 294, v 295, v 296, v 297, v 298, v 299, v 300, v 301, v 302, v 303, v 304, v 305, v 306, v 307, v 308, v 309, v 310, v 311, v 312, v 313, v 314, v 315, v 316, v 317, v 318, v 319, v 320, v 321, v 322, v 323, v 324, v 325, v 326, v 327, v 328, v 329, v 330, v 331, v 332, v 333, v 334, v 335, v 336, v 337, v 338, v 339, v 340, v 341, v 342, v 343, v 344, v 345, v 346, v 347, v 348, v 349, v 350, v 351, v 352, v 353, v 354, v 355, v 356, v 357, v 358, v 359, v 360, v 361, v 362, v 363, v 364, v 365, v 366, v 367, v 368, v 369, v 370, v 371, v 372, v 373, v 374, v 375, v 376, v 377, v 378, v 379, v 380, v 381, v 382, v 383, v 384, v 385, v 386, v 387, v 388, v 389, v 390, v 391, v 392, v 393, v 394, v 395, v 396, v 397, v 398, v 399, v 400, v 401, v 402, v 403, v 404, v 405, v 406, v 407, v 408, v 409, v 410, v 411, v 412, v 413, v 414, v 415, v 416, v 417, v 418, v 419, v 420, v 421, v 422, v 423, v 424, v 425, v 426, v 427, v 428, v 429, v 430, v 431, v 432, v 433, v 434, v 435], []⟩) 3 ⟨0, fun _ => undef, ⟨rfl, Nat.zero_le _, Or.inl ⟨Or.inl rfl, hE⟩⟩, rfl⟩ ?_
  clear hE
  intro gk a wr hinv
  obtain ⟨i, v, ⟨rfl, hi, hst⟩, rfl⟩ := hinv
  intro J K hJ hK
  rcases hst with ⟨rfl | rfl, hE⟩ | ⟨rfl | rfl, hE⟩
  · skip
    obtain ⟨k0, k1, k2⟩ := hE.cells
    have s0 : wr.cell? ⟨g, 0, none⟩ = some (.iface T0 v0) := hE.src 0 _ rfl
    have q1 := h0.open_
    have q2 := h0.emph
    have hSd : ∀ o, Same wr ((wr.alloc o).drew) := fun o => ((Mods.refl (fun _ => False) wr).alloc o).drew
    go_wp2_with fail
    go_region_law (refine st_room_inl rfl (.tmp 55) (.tmp 60) rfl g 0 3 cap _ (ownsRow_keep hE.row (hSd _) (fun _ _ x => x)) (by omega) (.iface T0 v0) rfl wr.heap.size 1 rfl rfl ((Blk.drew (Blk.newAt _ _ rfl)).cell 0) ?_; intro wB hmB hrB; have hEB := hE.app (hSd _) hmB hrB; obtain ⟨k0', k1', k2'⟩ := hEB.cells)
    all_goals
      go_wp2_with fail
      refine Handed.intro (3 - (0 + 1)) (by omega) (hJ _ _ _ ⟨0 + 1, (fun d => cond (Nat.ble 11 d && Nat.ble d 61) (cond (Nat.ble d 42) (cond (Nat.ble d 26) (List.getD [_, _, _, _, _, _, _, _, _, _, _, undef, _, _, _, _] (d - 11) undef) (List.getD [_, _, _, _, _, _, _, _, _, _, _, _, _, _, _, _] (d - 27) undef)) (cond (Nat.ble d 58) (List.getD [_, _, _, _, _, _, _, _, _, _, _, _, _, _, _, _] (d - 43) undef) (List.getD [_, _, _] (d - 59) undef))) (v d)), ⟨rfl, by omega, Or.inl ⟨Or.inr rfl, hEB.setD 1⟩⟩, rfl⟩)
  · obtain ⟨k0, k1, k2⟩ := hE.cells
    have s0 : wr.cell? ⟨g, 1, none⟩ = some (.iface 190 (.pointer (some ⟨m, 0, none⟩))) := hE.src 1 _ rfl
    have q1 := as_open_mark
    have q2 := as_mark_yes
    obtain ⟨x0, xf, xl⟩ := hE.m1c 0
    have x1 := (hE.m1c 1).1
    have x2 := (hE.m1c 2).1
    have y2 : wr.cell? ⟨w.heap.size + 1, 4, none⟩ = some (.slice none 0 0) := (hE.sc 4).1
    have HE := Lib.hid hE
    clear hE
    go_wp2_with fail
    go_step3
    go_wp2_with fail
    refine (stackOf_n 39 4 wr (Or.inr (Or.inr ⟨rfl, rfl⟩))).mono ?_
    rintro e w' ⟨rfl, rfl⟩
    go_wp2_with fail
    go_step3
    go_wp2_with fail
    refine wp_loop_rounds 1 ?_
    rw [rounds_succ]
    go_wp2_with fail
    refine wp_loop_rounds 1 ?_
    rw [rounds_succ]
    go_wp2_with fail
    rw [Exit.noGoto_normal]
    go_wp2_with fail
    refine (stackOf_n 39 4 wr (Or.inr (Or.inr ⟨rfl, rfl⟩))).mono ?_
    rintro e w' ⟨rfl, rfl⟩
    go_upto_region 57 with (fail)
    have hE1 := HE.out.setE 0 (.string ⟨#[226, 128, 153]⟩)
    generalize (World.setCell wr _ _ : World) = w1 at hE1 ⊢
    clear k0 k1 k2 s0 q1 q2 x0 xf xl x1 x2 y2 HE
    obtain ⟨k0, k1, k2⟩ := hE1.cells
    have x1 := (hE1.m1c 1).1
    have hSd : ∀ o, Same w1 ((w1.alloc o).drew) := fun o => ((Mods.refl (fun _ => False) w1).alloc o).drew
    go_wp2_with fail
    go_region_law (refine st_room_inl rfl (.tmp 428) (.tmp 433) rfl g 1 3 cap _ (ownsRow_keep hE1.row (hSd _) (fun _ _ x => x)) (by omega) (.iface 156 (.pointer (some ⟨m, 0, none⟩))) rfl w1.heap.size 1 rfl rfl ((Blk.drew (Blk.newAt _ _ rfl)).cell 0) ?_; intro wB hmB hrB; have hEB := hE1.app (hSd _) hmB hrB; obtain ⟨k0', k1', k2'⟩ := hEB.cells)
    all_goals
      go_wp2_with fail
      refine Handed.intro (3 - (1 + 1)) (by omega) (hJ _ _ _ ⟨1 + 1, (fun d => cond (Nat.ble 11 d && Nat.ble d 434) (cond (Nat.ble d 218) (cond (Nat.ble d 106) (cond (Nat.ble d 58) (cond (Nat.ble d 26) (List.getD [_, _, _, _, _, _, _, _, _, _, _, undef, _, _, _, _] (d - 11) undef) (cond (Nat.ble d 42) (List.getD [_, _, _, _, _, _, _, _, _, _, _, _, _, _, _, _] (d - 27) undef) (List.getD [_, _, _, _, _, _, _, _, _, _, _, _, _, _, _, _] (d - 43) undef))) (cond (Nat.ble d 74) (List.getD [_, _, _, _, _, _, _, _, _, _, _, _, _, _, _, _] (d - 59) undef) (cond (Nat.ble d 90) (List.getD [_, _, _, _, _, _, _, _, _, _, _, _, _, _, _, _] (d - 75) undef) (List.getD [_, _, _, _, _, _, _, _, _, _, _, _, _, _, _, _] (d - 91) undef)))) (cond (Nat.ble d 154) (cond (Nat.ble d 122) (List.getD [_, _, _, _, _, _, _, _, _, _, _, _, _, _, _, _] (d - 107) undef) (cond (Nat.ble d 138) (List.getD [_, _, _, _, _, _, _, _, _, _, _, _, _, _, _, _] (d - 123) undef) (List.getD [_, _, _, _, _, _, _, _, _, _, _, _, _, _, _, _] (d - 139) undef))) (cond (Nat.ble d 186) (cond (Nat.ble d 170) (List.getD [_, _, _, _, _, _, _, _, _, _, _, _, _, _, _, _] (d - 155) undef) (List.getD [_, _, _, _, _, _, _, _, _, _, _, _, _, _, _, _] (d - 171) undef)) (cond (Nat.ble d 202) (List.getD [_, _, _, _, _, _, _, _, _, _, _, _, _, _, _, _] (d - 187) undef) (List.getD [_, _, _, _, _, _, _, _, _, _, _, _, _, _, _, _] (d - 203) undef))))) (cond (Nat.ble d 330) (cond (Nat.ble d 266) (cond (Nat.ble d 234) (List.getD [_, _, _, _, _, _, _, _, _, _, _, _, _, _, _, _] (d - 219) undef) (cond (Nat.ble d 250) (List.getD [_, _, _, _, _, _, _, _, _, _, _, _, _, _, _, _] (d - 235) undef) (List.getD [_, _, _, _, _, _, _, _, _, _, _, _, _, _, _, _] (d - 251) undef))) (cond (Nat.ble d 298) (cond (Nat.ble d 282) (List.getD [_, _, _, _, _, _, _, _, _, _, _, _, _, _, _, _] (d - 267) undef) (List.getD [_, _, _, _, _, _, _, _, _, _, _, _, _, _, _, _] (d - 283) undef)) (cond (Nat.ble d 314) (List.getD [_, _, _, _, _, _, _, _, _, _, _, _, _, _, _, _] (d - 299) undef) (List.getD [_, _, _, _, _, _, _, _, _, _, _, _, _, _, _, _] (d - 315) undef)))) (cond (Nat.ble d 378) (cond (Nat.ble d 346) (List.getD [_, _, _, _, _, _, _, _, _, _, _, _, _, _, _, _] (d - 331) undef) (cond (Nat.ble d 362) (List.getD [_, _, _, _, _, _, _, _, _, _, _, _, _, _, _, _] (d - 347) undef) (List.getD [_, _, _, _, _, _, _, _, _, _, _, _, _, _, _, _] (d - 363) undef))) (cond (Nat.ble d 410) (cond (Nat.ble d 394) (List.getD [_, _, _, _, _, _, _, _, _, _, _, _, _, _, _, _] (d - 379) undef) (List.getD [_, _, _, _, _, _, _, _, _, _, _, _, _, _, _, _] (d - 395) undef)) (cond (Nat.ble d 426) (List.getD [_, _, _, _, _, _, _, _, _, _, _, _, _, _, _, _] (d - 411) undef) (List.getD [_, _, _, _, _, _, _, _] (d - 427) undef)))))) (v d)), ⟨rfl, by omega, Or.inr ⟨Or.inl rfl, hEB.setD 2⟩⟩, rfl⟩)
  · skip
    obtain ⟨k0, k1, k2⟩ := hE.cells
    have s0 : wr.cell? ⟨g, 2, none⟩ = some (.iface T2 v2) := hE.src 2 _ rfl
    have q1 := h2.open_
    have q2 := h2.emph
    have hSd : ∀ o, Same wr ((wr.alloc o).drew) := fun o => ((Mods.refl (fun _ => False) wr).alloc o).drew
    go_wp2_with fail
    go_region_law (refine st_room_inl rfl (.tmp 55) (.tmp 60) rfl g 2 3 cap _ (ownsRow_keep hE.row (hSd _) (fun _ _ x => x)) (by omega) (.iface T2 v2) rfl wr.heap.size 1 rfl rfl ((Blk.drew (Blk.newAt _ _ rfl)).cell 0) ?_; intro wB hmB hrB; have hEB := hE.app (hSd _) hmB hrB; obtain ⟨k0', k1', k2'⟩ := hEB.cells)
    all_goals
      go_wp2_with fail
      refine Handed.intro (3 - (2 + 1)) (by omega) (hJ _ _ _ ⟨2 + 1, (fun d => cond (Nat.ble 11 d && Nat.ble d 61) (cond (Nat.ble d 42) (cond (Nat.ble d 26) (List.getD [_, _, _, _, _, _, _, _, _, _, _, undef, _, _, _, _] (d - 11) undef) (List.getD [_, _, _, _, _, _, _, _, _, _, _, _, _, _, _, _] (d - 27) undef)) (cond (Nat.ble d 58) (List.getD [_, _, _, _, _, _, _, _, _, _, _, _, _, _, _, _] (d - 43) undef) (List.getD [_, _, _] (d - 59) undef))) (v d)), ⟨rfl, by omega, Or.inr ⟨Or.inr rfl, hEB.setD 3⟩⟩, rfl⟩)
  · obtain ⟨k0, k1, k2⟩ := hE.cells
    have HS : Hid (AEnd w wr g cap m T0 T2 v0 v2) := Lib.hid ⟨_, hE⟩
    clear hE
    go_wp2_with fail
    go_ret
    exact ⟨rfl, HS.out⟩
end Go.Proofs.YtdnlfdppjfjncaaGreatDoor

/- FnSmartQuotes: how its texts are read. -/
namespace Go.Proofs.YtdnlfdppjfjncaaGreatDoor.G
open Go Go.RowKit Go.Proofs

def quoteL (a b c : ByteArray) (q : UInt8) : List UInt8 := a.data.toList ++ 32 :: (q :: (b.data.toList ++ (q :: 32 :: c.data.toList)))
def quoteT (a b c : ByteArray) (q : UInt8) : ByteArray := strL (quoteL a b c q)
def aposL (a c : ByteArray) : List UInt8 := a.data.toList ++ 39 :: c.data.toList
def aposT (a c : ByteArray) : ByteArray := strL (aposL a c)

theorem quote_starts {o : Op} (ho : o.quote = true) {q : UInt8} (hq : q = 34 ∨ q = 39) : Starts o q 81 := by
  rcases hq with rfl | rfl
  · exact Or.inr (Or.inr (Or.inr (Or.inr (Or.inl ⟨rfl, rfl, ho⟩))))
  · exact Or.inr (Or.inr (Or.inr (Or.inr (Or.inr ⟨rfl, rfl, ho⟩))))

theorem quote_plan (a b c : ByteArray) (q : UInt8) (hq : q = 34 ∨ q = 39) (o : Op) (ho : o.quote = true) (ha : Word a) (hb : Word b) (hc : Word c) :
    Plan o (quoteT a b c q) 0 0 [.plain (strL (a.data.toList ++ [32])), mark (strL [q]) true false 1, .plain b, mark (strL [q]) false true 1, .plain (strL (32 :: c.data.toList))] := by
  generalize hs : quoteT a b c q = s
  have hlist : s.data.toList = quoteL a b c q := by rw [← hs]; simp [quoteT, strL]
  have ea : a.data.toList.length = a.size := rfl
  have eb : b.data.toList.length = b.size := rfl
  have ec : c.data.toList.length = c.size := rfl
  have hsize : s.size = a.size + 1 + 1 + b.size + 1 + 1 + c.size := by
    have e : s.size = s.data.toList.length := rfl
    rw [e, hlist]
    simp only [quoteL, List.length_append, List.length_cons]
    omega
  have h0 : FromL s 0 ((a.data.toList ++ [32]) ++ (q :: (b.data.toList ++ (q :: 32 :: c.data.toList)))) := by
    unfold FromL
    rw [List.drop_zero, hlist]
    simp [quoteL]
  have hA := ha.pos
  have hA2 := ha.le
  have hB := hb.pos
  have hB2 := hb.le
  have hC := hc.pos
  have hC2 := hc.le
  have l1 : (a.data.toList ++ [32]).length = a.size + 1 := by simp [ea]
  have h1 : FromL s (a.size + 1) (q :: (b.data.toList ++ (q :: 32 :: c.data.toList))) := by have := h0.app; rw [l1, Nat.zero_add] at this; exact this
  have h2 : FromL s (a.size + 1 + 1) (b.data.toList ++ (q :: 32 :: c.data.toList)) := h1.tl
  have h3 : FromL s (a.size + 1 + 1 + b.size) (q :: 32 :: c.data.toList) := by have := h2.app; rw [eb] at this; exact this
  have h4 : FromL s (a.size + 1 + 1 + b.size + 1) (32 :: c.data.toList) := h3.tl
  have hone : ∀ {i : Nat} {x : UInt8} {y : List UInt8}, FromL s i (x :: y) → s.extract i (i + 1) = strL [x] := fun h => FromL.ext (x := [_]) h _ rfl
  -- the last text
  have hfin : Plan o s (a.size + 1 + 1 + b.size + 1) (a.size + 1 + 1 + b.size + 1) [.plain (strL (32 :: c.data.toList))] := by
    have hf := Plan.fin (o := o) (s := s) (a.size + 1 + 1 + b.size + 1)
    have h5 : FromL s (a.size + 1 + 1 + b.size + 1) ((32 :: c.data.toList) ++ []) := by rw [List.append_nil]; exact h4
    have hex : s.extract (a.size + 1 + 1 + b.size + 1) s.size = strL (32 :: c.data.toList) := h5.ext s.size (by rw [List.length_cons]; omega)
    rw [if_pos (by omega), hex] at hf
    refine plan_skip (1 + c.size) _ (by omega) (fun j hj x1 x2 => ?_) (by rw [show a.size + 1 + 1 + b.size + 1 + (1 + c.size) = s.size by omega]; exact hf)
    have := h5.mem j hj x1 (by rw [List.length_cons]; omega)
    rcases List.mem_cons.1 this with e | e
    · exact Or.inl (by rw [e]; decide)
    · exact Or.inl (wd_dull _ (hc.all _ e))
  -- the closing mark
  have hclose : Plan o s (a.size + 1 + 1 + b.size) (a.size + 1 + 1) [.plain b, mark (strL [q]) false true 1, .plain (strL (32 :: c.data.toList))] := by
    have hlast : s[a.size + 1 + 1 + b.size - 1]'(by omega) ∈ b.data.toList := by
      have := last_mem h2 (by omega) (by omega)
      simpa only [eb] using this
    have hcall := quote_call s (a.size + 1 + 1 + b.size) q true false false true (by omega) (by omega) (by omega) hq (h3.hd (by omega)) (Or.inr ⟨rfl, hb.all _ hlast⟩) (Or.inl ⟨rfl, h4.hd h4.lt⟩) (Or.inr (Or.inl ⟨rfl, rfl, rfl, rfl⟩))
    rw [hone h3] at hcall
    have hp := Plan.piece (o := o) (s := s) (k := a.size + 1 + 1 + b.size) (e := a.size + 1 + 1) (by omega) 81 (by rw [h3.hd (by omega)]; exact quote_starts ho hq) _ _ _ (by omega) (Nat.le_refl _) (by omega) (by omega) hcall (mark_ok _ _ _ _) hfin
    rw [if_pos (by omega), h2.ext _ (by rw [eb])] at hp
    have hbb : strL b.data.toList = b := by apply ByteArray.ext; simp [strL]
    rw [hbb] at hp
    exact hp
  have hmid : Plan o s (a.size + 1 + 1) (a.size + 1 + 1) [.plain b, mark (strL [q]) false true 1, .plain (strL (32 :: c.data.toList))] := by
    refine plan_skip b.size _ (by omega) (fun j hj x1 x2 => ?_) hclose
    exact Or.inl (wd_dull _ (hb.all _ (h2.mem j hj x1 (by rw [eb]; exact x2))))
  have hopen : Plan o s (a.size + 1) 0 [.plain (strL (a.data.toList ++ [32])), mark (strL [q]) true false 1, .plain b, mark (strL [q]) false true 1, .plain (strL (32 :: c.data.toList))] := by
    have hbefore : s[a.size + 1 - 1]'(by omega) = 32 := by
      have h5 : FromL s 0 (a.data.toList ++ (32 :: (q :: (b.data.toList ++ (q :: 32 :: c.data.toList))))) := by
        have := h0
        simpa using this
      have h6 := h5.app
      rw [Nat.zero_add, ea] at h6
      have h7 := h6.hd h6.lt
      simpa only [Nat.add_sub_cancel] using h7
    have hafter : s[a.size + 1 + 1]'(by omega) ∈ b.data.toList := h2.mem _ (by omega) (Nat.le_refl _) (by omega)
    have hcall := quote_call s (a.size + 1) q false true true false (by omega) (by omega) (by omega) hq (h1.hd (by omega)) (Or.inl ⟨rfl, hbefore⟩) (Or.inr ⟨rfl, hb.all _ hafter⟩) (Or.inl ⟨rfl, rfl, rfl, rfl⟩)
    rw [hone h1] at hcall
    have hp := Plan.piece (o := o) (s := s) (k := a.size + 1) (e := 0) (by omega) 81 (by rw [h1.hd (by omega)]; exact quote_starts ho hq) _ _ _ (by omega) (Nat.le_refl _) (by omega) (by omega) hcall (mark_ok _ _ _ _) hmid
    rw [if_pos (by omega), h0.ext _ (by rw [l1, Nat.zero_add])] at hp
    exact hp
  refine plan_skip (a.size + 1) 0 (by omega) (fun j hj x1 x2 => ?_) (by rw [Nat.zero_add]; exact hopen)
  have := h0.mem j hj x1 (by rw [l1]; exact x2)
  rcases List.mem_append.1 this with e | e
  · exact Or.inl (wd_dull _ (ha.all _ e))
  · have e2 : s[j] = 32 := by simpa using e
    exact Or.inl (by rw [e2]; decide)

theorem apos_plan (a c : ByteArray) (o : Op) (ho : o.quote = true) (ha : Word a) (hc : Word c) :
    Plan o (aposT a c) 0 0 [.plain a, mark (strL [39]) false true 1, .plain c] := by
  generalize hs : aposT a c = s
  have hlist : s.data.toList = aposL a c := by rw [← hs]; simp [aposT, strL]
  have ea : a.data.toList.length = a.size := rfl
  have ec : c.data.toList.length = c.size := rfl
  have hsize : s.size = a.size + 1 + c.size := by
    have e : s.size = s.data.toList.length := rfl
    rw [e, hlist]
    simp only [aposL, List.length_append, List.length_cons]
    omega
  have h0 : FromL s 0 (a.data.toList ++ (39 :: c.data.toList)) := by
    unfold FromL
    rw [List.drop_zero, hlist]
    simp [aposL]
  have hA := ha.pos
  have hA2 := ha.le
  have hC := hc.pos
  have hC2 := hc.le
  have h1 : FromL s a.size (39 :: c.data.toList) := by have := h0.app; rw [ea, Nat.zero_add] at this; exact this
  have h2 : FromL s (a.size + 1) c.data.toList := h1.tl
  have h2' : FromL s (a.size + 1) (c.data.toList ++ []) := by rw [List.append_nil]; exact h2
  have hbb : ∀ b : ByteArray, strL b.data.toList = b := fun b => by apply ByteArray.ext; simp [strL]
  have hfin : Plan o s (a.size + 1) (a.size + 1) [.plain c] := by
    have hf := Plan.fin (o := o) (s := s) (a.size + 1)
    have hex : s.extract (a.size + 1) s.size = strL c.data.toList := h2'.ext s.size (by omega)
    rw [if_pos (by omega), hex, hbb] at hf
    refine plan_skip c.size _ (by omega) (fun j hj x1 x2 => ?_) (by rw [show a.size + 1 + c.size = s.size by omega]; exact hf)
    exact Or.inl (wd_dull _ (hc.all _ (h2'.mem j hj x1 (by omega))))
  have hmark : Plan o s a.size 0 [.plain a, mark (strL [39]) false true 1, .plain c] := by
    have hlast : s[a.size - 1]'(by omega) ∈ a.data.toList := by
      have := last_mem h0 (by omega) (by omega)
      simpa only [ea, Nat.zero_add] using this
    have hafter : s[a.size + 1]'(by omega) ∈ c.data.toList := h2'.mem _ (by omega) (Nat.le_refl _) (by omega)
    have hcall := quote_call s a.size 39 false false false true (by omega) (by omega) (by omega) (Or.inr rfl) (h1.hd (by omega)) (Or.inr ⟨rfl, ha.all _ hlast⟩) (Or.inr ⟨rfl, hc.all _ hafter⟩) (Or.inr (Or.inr ⟨rfl, rfl, rfl, rfl⟩))
    rw [show s.extract a.size (a.size + 1) = strL [39] from FromL.ext (x := [39]) h1 _ rfl] at hcall
    have hp := Plan.piece (o := o) (s := s) (k := a.size) (e := 0) (by omega) 81 (by rw [h1.hd (by omega)]; exact quote_starts ho (Or.inr rfl)) _ _ _ (by omega) (Nat.le_refl _) (by omega) (by omega) hcall (mark_ok _ _ _ _) hfin
    rw [if_pos (by omega), h0.ext _ (by rw [ea, Nat.zero_add]), hbb] at hp
    exact hp
  refine plan_skip a.size 0 (by omega) (fun j hj x1 x2 => ?_) (by rw [Nat.zero_add]; exact hmark)
  exact Or.inl (wd_dull _ (ha.all _ (h0.mem j hj x1 (by omega))))
end Go.Proofs.YtdnlfdppjfjncaaGreatDoor.G

/- (*Parser).parse of a paragraph of some lines, over a plan of its text. -/
namespace Go.Proofs.YtdnlfdppjfjncaaGreatDoor
open Go Go.RowKit Go.Proofs

/-- The open blocks: the document, and a paragraph below it. -/
def twoOB (rv pv : Value) (ea eb : Int) : List OB := [⟨rv, .slice none 0 0, 0, ea⟩, ⟨pv, .slice none 0 0, 1, eb⟩]
theorem twoOB_upd (rv pv : Value) (ea eb m : Int) : updE (twoOB rv pv ea eb) 0 2 m = twoOB rv pv m m := by
  simp [updE, twoOB, List.mapIdx, List.mapIdx.go]

/-- What stands of the document when both blocks are closed. -/
structure ManyClosed (w w' : World) (bp g cap pp k : Nat) (s : ByteArray) : Prop where
  mods : Mods (fun k => k = bp ∨ k = g) w w'
  ex : ∃ rk pk tb tg tc ig ic x y x2 y2, w.heap.size ≤ rk ∧ w.heap.size ≤ pk ∧ w.heap.size ≤ tb ∧
    Blk w' rk #[.int .i64 x, .int .i64 y, .slice (some ⟨ig, 0, none⟩) 1 ic, .map none] 339 ∧
    Blk w' pk #[.int .i64 x2, .int .i64 y2, .pointer (some ⟨tb, 0, none⟩)] 155 ∧
    Blk w' tb #[.int .i64 x2, .int .i64 y2, .slice none 0 0, .string s] 110 ∧
    PsAt w' bp { p2 pp g cap with lineno := (k : Nat), texts := .slice (some ⟨tg, 0, none⟩) 1 tc, stack := .slice (some ⟨g, 0, none⟩) 0 cap, root := .pointer (some ⟨rk, 0, none⟩) } ∧
    w'.ownsRow 0 105 1 (.slice (some ⟨tg, 0, none⟩) 1 tc) 1 [.pointer (some ⟨tb, 0, none⟩)] ∧
    w'.ownsRow 0 68 1 (.slice (some ⟨ig, 0, none⟩) 1 ic) 1 [.iface 153 (.pointer (some ⟨pk, 0, none⟩))]

theorem closed_many (bp g cap pp k gt ct bb : Nat) (v : Option Addr) (ea eb : Int) (ls : List ByteArray) (w : World) (hT : ParaText ls) (hk : ls.length = k)
    (h : ParaL w bp g 1 cap { p2 pp g cap with lineno := (k : Nat) } (twoOB (.iface 98 (.pointer v)) (.iface 162 (.pointer (some ⟨bb, 0, none⟩))) ea eb) bb gt ct k ls) :
    Calls Tryz.prog 65 #[.pointer (some ⟨bp, 0, none⟩), .int .i64 0] w fun e w' => e = .returned (.tuple #[]) ∧ ManyClosed w w' bp g cap pp k (joinT ls) := by
  obtain ⟨l0, r0, hl0⟩ : ∃ l r, ls = l :: r := by
    cases hls : ls with
    | nil => exact absurd hls hT.ne
    | cons l r => exact ⟨l, r, rfl⟩
  have hp0 := hT.pos l0 (by rw [hl0]; simp)
  obtain ⟨hj0, hj1⟩ := joinT_first (r := r0) hp0
  rw [← hl0] at hj0
  have hjf : (joinT ls)[0] = l0[0] := by simpa only [hl0] using hj1
  have hk0 : 0 < k := by rw [← hk, hl0]; simp
  have hkc := hT.count
  have hsm := hT.small
  obtain ⟨_, _, he, ⟨curT, hcurT⟩, _, hc⟩ := ownsRow_form h.txt hk0
  cases he
  have hcap : k ≤ ct := by
    rcases h.txt.2 with ⟨h, _⟩ | ⟨_, _, _, h, _, _, hc, _⟩
    · cases h
    · cases h; exact hc
  have hJ : ∀ W, Same w W → Calls Tryz.prog 29 #[.slice (some ⟨gt, 0, none⟩) k ct, .string ⟨#[10]⟩] W fun e W' => e = .returned (.string (joinT ls)) ∧ Same W W' := by
    intro W hW
    subst hk
    refine (Tryz.strings_Join gt 0 ct ls ⟨#[10]⟩ W ?_ (Nat.lt_of_lt_of_le hcurT.lt hW.size) (by omega) hcap ?_).mono ?_
    · intro j x hx
      have := hc j (.string x) (by rw [List.getElem?_map, hx]; rfl)
      rw [Nat.zero_add]
      exact (World.cell?_of_block (hW.block gt hcurT.lt (fun x => x))).trans this
    · have e1 : (Lib.join (ls.map (·.data.toList)) (⟨#[10]⟩ : ByteArray).data.toList).length = (joinT ls).size := by rw [size_list, joinT_list]
      rw [e1]; omega
    · rintro e w' ⟨h1, h2⟩
      exact ⟨h1, Below.mods h2 (fun k hk hk2 => absurd hk (by omega))⟩
  have h91 : (joinT ls)[0] ≠ 91 := by rw [hjf]; exact hT.no91 l0 r0 hl0 hp0
  have h10 : (joinT ls)[0] ≠ 10 := by rw [hjf]; exact hT.no10 l0 (by rw [hl0]; simp) 0 hp0
  have h9 : (joinT ls)[0] ≠ 9 := by rw [hjf]; exact hT.no9 l0 (by rw [hl0]; simp) 0 hp0
  have h32 : (joinT ls)[0] ≠ 32 := by
    rw [hjf]
    have := hT.first l0 (by rw [hl0]; simp) hp0
    intro h; rw [h] at this; cases this
  have hrow : w.ownsRow 0 121 4 (.slice (some ⟨g, 0, none⟩) (0 + 1 + 1) cap) (0 + 1 + 1) (([] ++ [.iface 98 (.pointer v), .slice none 0 0, .int .i64 0, .int .i64 ea]) ++ [.iface 162 (.pointer (some ⟨bb, 0, none⟩)), .slice none 0 0, .int .i64 1, .int .i64 eb]) := h.row
  have hcl := closePara bp bb g 0 cap 0 0 { p2 pp g cap with lineno := (k : Nat) } [] [] [] (.iface 98 (.pointer v)) (.slice none 0 0) (.slice none 0 0) (.slice (some ⟨gt, 0, none⟩) k ct) 0 ea 1 eb k (joinT ls) w h.at_ rfl (by omega) hrow ⟨rfl, Or.inl ⟨rfl, rfl⟩⟩ (by omega) h.blk ⟨_, _, rfl⟩ (by omega)
    ⟨rfl, Or.inl ⟨rfl, rfl⟩⟩ (by omega) hJ hj0 (by omega) h32 h9 h10 h91 (by omega) (by omega)
  have hgen := trimStack_gen bp 0 (fun j W => match j with
    | 2 => W = w
    | 1 => ∃ u, ParaClosed w W bp g 0 cap 0 0 { p2 pp g cap with lineno := (k : Nat) } [] [] [] (.iface 98 (.pointer v)) (.slice none 0 0) 0 ea 1 (1 + (k : Int) - 1) (joinT ls) u
    | 0 => ManyClosed w W bp g cap pp k (joinT ls)
    | _ => False) (by omega) ?_ ?_ 2 w rfl
  · exact hgen
  · intro j W hP
    match j, hP with
    | 2, hP => subst hP; exact ⟨by omega, _, _, h.at_.stack⟩
    | 1, ⟨u, hPC⟩ =>
      obtain ⟨pk, tb, tg, tc, ig, ic, _, _, _, _, _, h, _⟩ := hPC.ex
      exact ⟨by omega, _, _, h.stack⟩
    | 0, hP =>
      obtain ⟨rk, pk, tb, tg, tc, ig, ic, _, _, _, _, _, _, _, _, _, _, h, _⟩ := hP.ex
      exact ⟨by omega, _, _, h.stack⟩
  · intro j W hP
    match j, hP with
    | 1, hP => subst hP; exact hcl.mono fun e w' ⟨v1, h1, h2⟩ => ⟨v1, h1, v1, h2⟩
    | 0, ⟨u, hPC⟩ =>
      obtain ⟨pk, tb, tg, tc, ig, ic, _, hpk, htb, hPb, hTb, hps, htx, hrow, hin⟩ := hPC.ex
      refine (closeRoot bp g cap _ v (some ⟨ig, 0, none⟩) 1 ic none 0 ea W hps rfl hrow rfl).mono ?_
      rintro e W' ⟨u', rfl, hm, rk, hrk, hR, hps'⟩
      have h1 := hPC.mods.size
      have hne : ∀ {b : Nat} {cs : Array Value} {T : Nat}, Blk W b cs T → T ≠ 95 → ¬ (b = bp) := fun h hT => by
        obtain ⟨tail, htl⟩ := id hps
        exact h.ne_of_type htl hT
      refine ⟨u', rfl, ?_, rk, pk, tb, tg, tc, ig, ic, _, _, _, _, by omega, hpk, htb, hR, hPb.keep hm (hne hPb (by decide)), hTb.keep hm (hne hTb (by decide)), hps', ?_, ?_⟩
      · refine (hPC.mods.mono (fun k _ h => ?_)).trans (hm.mono (fun _ _ h => Or.inl h))
        rcases h with h | h | h | h
        · exact Or.inl h
        · exact Or.inr h
        · cases h
        · cases h
      · exact ownsRow_keep htx hm (fun k hk x => own_ne_ps htx hps (by decide) (by rw [← x]; exact hk))
      · exact ownsRow_keep hin hm (fun k hk x => own_ne_ps hin hps (by decide) (by rw [← x]; exact hk))
end Go.Proofs.YtdnlfdppjfjncaaGreatDoor

/- mergePlain over a row all of whose inlines are plain: one text. -/
namespace Go.Proofs.YtdnlfdppjfjncaaGreatDoor.G
open Go Go.RowKit Go.Proofs

theorem row_take {w : World} {e n g cap : Nat} {xs : List Value} (h : w.ownsRow 0 e 1 (.slice (some ⟨g, 0, none⟩) n cap) n xs) (k : Nat) (hk : k ≤ n) : w.ownsRow 0 e 1 (.slice (some ⟨g, 0, none⟩) k cap) k (xs.take k) := by
  obtain ⟨h1, h2⟩ := h
  refine ⟨by rw [List.length_take]; omega, .inr ?_⟩
  rcases h2 with ⟨h2, _⟩ | ⟨g', cap', cur, hv, hb, hg, hc, hm, hs, ht⟩
  · cases h2
  · cases hv
    refine ⟨g, cap, cur, rfl, hb, hg, by omega, hm, hs, ?_⟩
    rw [← ht, List.take_take, Nat.mul_one, Nat.mul_one, Nat.min_eq_left hk]
theorem set_take1 (xs : List Value) (x : Value) (h : 0 < xs.length) : (xs.set 0 x).take 1 = [x] := by
  cases xs with
  | nil => simp at h
  | cons y r => simp

/-- The texts of a row of plain inlines. -/
def TextsAt (w : World) (xs : List Value) (ts : List ByteArray) : Prop := xs.length = ts.length ∧ ∀ (i : Nat) (t : ByteArray), ts[i]? = some t → ∃ T b, xs[i]? = some (.iface T (.pointer (some ⟨b, 0, none⟩))) ∧ (T = 156 ∨ T = 190) ∧ (Blk w b #[.string t] 137 ∨ ∃ c1 c2 c3 c4, Blk w b #[.string t, c1, c2, c3, c4] 192)
theorem TextsAt.same {w w' : World} {xs : List Value} {ts : List ByteArray} (h : TextsAt w xs ts) (hm : Same w w') : TextsAt w' xs ts := by
  refine ⟨h.1, fun i t ht => ?_⟩
  obtain ⟨T, b, h1, hT, h2⟩ := h.2 i t ht
  refine ⟨T, b, h1, hT, ?_⟩
  rcases h2 with hb | ⟨c1, c2, c3, c4, hb⟩
  · exact Or.inl (hm.blk hb)
  · exact Or.inr ⟨c1, c2, c3, c4, hm.blk hb⟩
theorem TextsAt.cell {w : World} {xs : List Value} {ts : List ByteArray} (h : TextsAt w xs ts) {g n cap : Nat} (hown : w.ownsRow 0 132 1 (.slice (some ⟨g, 0, none⟩) n cap) n xs) (i : Nat) (hi : i < n) :
    ∃ T b t, ts[i]? = some t ∧ w.cell? ⟨g, i, none⟩ = some (.iface T (.pointer (some ⟨b, 0, none⟩))) ∧ w.cell? ⟨b, 0, none⟩ = some (.string t) ∧ (T = 156 ∨ T = 190) := by
  have hl : xs.length = n := by have := hown.1; omega
  obtain ⟨_, _, he, _, _, hc⟩ := ownsRow_form hown (by omega)
  cases he
  obtain ⟨t, ht⟩ : ∃ t, ts[i]? = some t := ⟨_, List.getElem?_eq_getElem (by have := h.1; omega)⟩
  obtain ⟨T, b, h1, hT, h2⟩ := h.2 i t ht
  refine ⟨T, b, t, ht, hc i _ h1, ?_, hT⟩
  rcases h2 with hb | ⟨c1, c2, c3, c4, hb⟩
  · exact hb.cell 0
  · exact hb.cell 0

theorem toPlain_emph (b : Nat) (w : World) : Calls Tryz.prog 131 #[.iface 190 (.pointer (some ⟨b, 0, none⟩))] w fun e w' => e = .returned (.pointer (some ⟨b, 0, none⟩)) ∧ w = w' := by
  have h1 := fun X v w => as_ptr_no 190 156 137 (by kernel_rfl) (fun _ => by kernel_rfl) X v w (by decide)
  have h2 := as_mark_yes
  go_enter Tryz.func131, Tryz.ntmps131
  go_wp2_with fail
  try rw [Exit.noGoto_ret]
  go_ret
  exact ⟨rfl, rfl⟩
theorem toPlain_yes (T b : Nat) (w : World) (h : T = 156 ∨ T = 190) : Calls Tryz.prog 131 #[.iface T (.pointer (some ⟨b, 0, none⟩))] w fun e w' => e = .returned (.pointer (some ⟨b, 0, none⟩)) ∧ w = w' := by
  rcases h with rfl | rfl
  · exact toPlain_plain _ w
  · exact toPlain_emph b w

def catT (ts : List ByteArray) : ByteArray := strL (ts.flatMap (·.data.toList))
theorem catT_join (ts : List ByteArray) : Lib.join (ts.map (·.data.toList)) [] = (catT ts).data.toList := by
  have h1 : ∀ l : List (List UInt8), Lib.join l [] = l.flatten := by
    intro l
    cases l with
    | nil => rfl
    | cons x r => rw [Lib.join_cons]; simp [Lib.joinTail]
  rw [h1]
  simp [catT, strL, List.flatMap]

set_option maxRecDepth 100000 in
set_option maxHeartbeats 4000000 in
theorem mergePlain1_many (g n cap : Nat) (xs : List Value) (ts : List ByteArray) (w : World) (hown : w.ownsRow 0 132 1 (.slice (some ⟨g, 0, none⟩) n cap) n xs) (hT : TextsAt w xs ts) (hn2 : 2 ≤ n) (hn : n ≤ 1000) (hts : (catT ts).size ≤ 1000000) :
    Calls Tryz.prog 132 #[.slice (some ⟨g, 0, none⟩) n cap] w fun e w' => ∃ b, e = .returned (.pointer (some ⟨b, 0, none⟩)) ∧ w.heap.size ≤ b ∧ Blk w' b #[.string (catT ts)] 137 ∧ Same w w' := by
  have hl : ts.length = n := by have := hown.1; have := hT.1; omega
  have hcap : n ≤ cap := by
    rcases hown.2 with ⟨h, _⟩ | ⟨_, _, _, h, _, _, hc, _⟩
    · cases h
    · cases h; exact hc
  have HT := Lib.hid hT
  have HO := Lib.hid hown
  have HL := Lib.hid hl
  have HS := Lib.hid hts
  clear hT hown hl hts
  have w0 : ((n : Int) == 1) = false := beq_eq_false_iff_ne.2 (by omega)
  have w0' : ¬ n = 1 := by omega
  go_enter Tryz.func132, Tryz.ntmps132
  go_wp2_with fail
  clear w0 w0'
  go_loopg [3, 5, 15] n (fun k v3 v5 v15 wr => ∃ i : Nat, v15 = .int .i64 i ∧ k = n - i ∧ i ≤ n ∧ (i = 0 → v5 = undef) ∧ Same w wr ∧ wr.ownsRow 0 9 1 v3 i ((ts.take i).map .string) ∧ (∀ g2, v3.ownBlock = some g2 → w.heap.size ≤ g2))
  case atStart => exact ⟨0, rfl, rfl, Nat.zero_le _, fun _ => rfl, Mods.refl _ _, ⟨rfl, Or.inl ⟨rfl, rfl⟩⟩, fun _ h => by cases h⟩
  case round =>
    obtain ⟨i, rfl, rfl, hi, h5, hm, hrow, hfr⟩ := hrel
    by_cases hlt : i < n
    · have w1 : (i : Int) < n := by omega
      have w2 : (0 : Int) ≤ i := by omega
      have w3 : IntKind.i64.wrap ((i : Int) + 1) = (i : Int) + 1 := IntWalk.i64_in _ (by omega)
      obtain ⟨T, b, t, ht, c1, c2, hTT⟩ := (HT.out.same hm).cell (ownsRow_keep HO.out hm (fun _ _ x => x)) i hlt
      have HM := Lib.hid hm
      have HR := Lib.hid hrow
      have HF := Lib.hid hfr
      have Ht := Lib.hid ht
      have HTT := Lib.hid hTT
      clear hm hrow hfr ht hTT h5
      go_wp2_with fail
      refine (toPlain_yes T b wr HTT.out).mono ?_
      rintro e w' ⟨rfl, rfl⟩
      go_wp2_with (at_builtin; refine ap_str rfl (.tmp 19) (.tmp 25) rfl _ i _ rfl (ownsRow_keep HR.out ((Mods.refl (fun _ => False) wr).alloc _) (fun _ _ x => x)) wr.heap.size 1 t rfl ((Blk.newAt _ _ rfl).cell 0) (by omega) ?_)
      intro g2 c2 w2 hrow2 hgrow2 hloc2
      have hm3 : Same w w2 := (HM.out.trans ((Mods.refl (fun _ => False) wr).alloc _)).then (grown_mods hgrow2) (fun b hb x => absurd (HF.out b x) (by omega))
      go_wp2_with fail
      go_roundg (n - (i + 1))
      case measure => omega
      case rel =>
        refine ⟨i + 1, by simp, rfl, by omega, fun h => absurd h (by omega), hm3, ?_, ?_⟩
        · rw [List.take_add_one, Ht.out]
          simpa using hrow2
        · intro g3 hg3
          cases hg3
          rcases hloc2 with h | h
          · exact HF.out _ h
          · have := HM.out.size
            have h9 : g2 = wr.heap.size + 1 := by simpa using h
            show w.heap.size ≤ g2
            omega
    · have hin : i = n := by omega
      subst hin
      have w1 : ¬ ((i : Int) < i) := by omega
      rw [List.take_of_length_le (by have := HL.out; omega)] at hrow
      obtain ⟨g3, c3, rfl, ⟨cur3, hcur3⟩, _, hc3⟩ := ownsRow_form hrow (by omega)
      have hcap3 : i ≤ c3 := by
        rcases hrow.2 with ⟨h, _⟩ | ⟨_, _, _, h, _, _, hc, _⟩
        · cases h
        · cases h; exact hc
      have hJ : Calls Tryz.prog 29 #[.slice (some ⟨g3, 0, none⟩) i c3, .string ⟨#[]⟩] wr fun e W' => e = .returned (.string (catT ts)) ∧ Same wr W' := by
        have hl := HL.out
        subst hl
        refine (Tryz.strings_Join g3 0 c3 ts ⟨#[]⟩ wr ?_ hcur3.lt (by omega) hcap3 ?_).mono ?_
        · intro j x hx
          have := hc3 j (.string x) (by rw [List.getElem?_map, hx]; rfl)
          rw [Nat.zero_add]
          exact this
        · have e1 : (Lib.join (ts.map (·.data.toList)) (⟨#[]⟩ : ByteArray).data.toList).length = (catT ts).size := by
            show (Lib.join (ts.map (·.data.toList)) []).length = _
            rw [catT_join]
            rfl
          rw [e1]
          have := HS.out
          omega
        · rintro e w' ⟨h1, h2⟩
          refine ⟨?_, Below.mods h2 (fun k hk hk2 => absurd hk (by omega))⟩
          rw [h1]
          refine congrArg (fun b => Ending.returned (.string b)) ?_
          apply ByteArray.ext
          apply Array.toList_inj.1
          have : (Lib.join (ts.map (·.data.toList)) (⟨#[]⟩ : ByteArray).data.toList) = (catT ts).data.toList := catT_join ts
          simpa using this
      have HM := Lib.hid hm
      have HJ := Lib.hid hJ
      clear hm hJ hrow hc3 hcur3 hfr h5
      go_wp2_with fail
      refine HJ.out.mono ?_
      rintro e w2 ⟨rfl, hm2⟩
      go_wp2_with fail
      go_ret
      exact ⟨w2.heap.size, rfl, Nat.le_trans HM.out.size hm2.size, Blk.newAt _ _ rfl, (HM.out.trans hm2).alloc _⟩

set_option maxRecDepth 100000 in
set_option maxHeartbeats 4000000 in
theorem mergePlain_all (q : Value) (g n cap : Nat) (xs : List Value) (ts : List ByteArray) (w : World) (hown : w.ownsRow 0 132 1 (.slice (some ⟨g, 0, none⟩) n cap) n xs) (hT : TextsAt w xs ts) (hn2 : 2 ≤ n) (hn : n ≤ 1000) (hts : (catT ts).size ≤ 1000000) :
    Calls Tryz.prog 92 #[q, .slice (some ⟨g, 0, none⟩) n cap] w fun e w' => e = .returned (.slice (some ⟨g, 0, none⟩) 1 cap) ∧ Mods (fun k => k = g) w w' ∧ ∃ b, w.heap.size ≤ b ∧ Blk w' b #[.string (catT ts)] 137 ∧ w'.ownsRow 0 132 1 (.slice (some ⟨g, 0, none⟩) 1 cap) 1 [.iface 156 (.pointer (some ⟨b, 0, none⟩))] := by
  have hcap : n ≤ cap := by
    rcases hown.2 with ⟨h, _⟩ | ⟨_, _, _, h, _, _, hc, _⟩
    · cases h
    · cases h; exact hc
  have c1 : (0 : Int) ≤ cap := by omega
  have HT := Lib.hid hT
  have HO := Lib.hid hown
  clear hT hown
  go_enter Tryz.func92, Tryz.ntmps92
  go_wp2_with fail
  go_loopg [5, 6, 7] (n + 1) (fun m v5 v6 v7 wr => ∃ i : Nat, v7 = .int .i64 i ∧ m = n + 1 - i ∧ i ≤ n ∧ w = wr ∧ v5 = .slice (some ⟨g, 0, none⟩) 0 cap ∧ v6 = .int .i64 0)
  case atStart => exact ⟨0, rfl, by omega, by omega, rfl, rfl, rfl⟩
  case round =>
    obtain ⟨i, rfl, rfl, hi, rfl, rfl, rfl⟩ := hrel
    have w1 : IntKind.i64.wrap ((i : Int) + 1) = (i : Int) + 1 := IntWalk.i64_in _ (by omega)
    by_cases hlt : i < n
    · have v1 : (i : Int) < n := by omega
      have v2 : (0 : Int) ≤ i := by omega
      obtain ⟨T, b, t, ht, k1, k2, hTT⟩ := HT.out.cell HO.out i hlt
      have HTT := Lib.hid hTT
      clear ht hTT
      go_wp2_with fail
      refine (toPlain_yes T b w HTT.out).mono ?_
      rintro e w' ⟨rfl, rfl⟩
      go_wp2_with fail
      go_roundg (n + 1 - (i + 1))
      case measure => omega
      case rel => exact ⟨i + 1, by simp, rfl, by omega, rfl, rfl, rfl⟩
    · have hin : i = n := by omega
      subst hin
      have w3 : ¬ ((i : Int) < i) := by omega
      have w4 : (0 : Int) < i := by omega
      have w5 : (i : Int) - 0 = i := by omega
      go_wp2_with fail
      refine (mergePlain1_many g i cap xs ts w HO.out HT.out hn2 hn hts).mono ?_
      rintro e w2 ⟨b, rfl, hbn, hb, hm2⟩
      have hrow2 := ownsRow_keep HO.out hm2 (fun _ _ x => x)
      go_wp2_with (at_builtin; refine wl_room_inl rfl (.tmp 27) (.tmp 34) rfl g 0 i cap xs (ownsRow_keep hrow2 ((Mods.refl (fun _ => False) w2).alloc _) (fun _ _ x => x)) (by omega) (.iface 156 (.pointer (some ⟨b, 0, none⟩))) rfl w2.heap.size 1 rfl rfl ((Blk.newAt _ _ rfl).cell 0) ?_)
      intro wB hmB hrB
      have hgb : b ≠ g := by
        obtain ⟨_, _, he, ⟨cur, hcur⟩, _, _⟩ := ownsRow_form hrow2 (by omega)
        cases he
        exact hb.ne_of_type hcur (by decide)
      have hbB := (Same.blk ((Mods.refl (fun _ => False) w2).alloc _) hb).keep1 hmB hgb
      go_wp2_with fail
      go_ret
      refine ⟨rfl, (hm2.mono (fun _ _ x => absurd x (fun x => x))).trans ((((Mods.refl (fun _ => False) w2).alloc _).mono (fun _ _ x => absurd x (fun x => x))).trans hmB), b, hbn, hbB, ?_⟩
      have hr1 := row_take hrB 1 (by omega)
      rwa [set_take1 xs _ (by have := HO.out.1; omega)] at hr1
end Go.Proofs.YtdnlfdppjfjncaaGreatDoor.G

/- inline of a word between quotation marks among words, and of an apostrophe. -/
namespace Go.Proofs.YtdnlfdppjfjncaaGreatDoor.G
open Go Go.RowKit Go.Proofs

/-- The marks: what stands in the text, and what is put out. -/
structure QMarks (q : UInt8) (x y : List UInt8) : Prop where
  hq : q = 34 ∨ q = 39
  hx : ∀ c ∈ x, c ≠ 34 ∧ c ≠ 38 ∧ c ≠ 60 ∧ c ≠ 62
  hy : ∀ c ∈ y, c ≠ 34 ∧ c ≠ 38 ∧ c ≠ 60 ∧ c ≠ 62
  lx : x.length = 3
  ly : y.length = 3
  which : (q = 34 ∧ x = [226, 128, 156] ∧ y = [226, 128, 157]) ∨ (q = 39 ∧ x = [226, 128, 152] ∧ y = [226, 128, 153])
theorem marks34 : QMarks 34 [226, 128, 156] [226, 128, 157] := ⟨Or.inl rfl, by decide, by decide, rfl, rfl, Or.inl ⟨rfl, rfl, rfl⟩⟩
theorem marks39 : QMarks 39 [226, 128, 152] [226, 128, 153] := ⟨Or.inr rfl, by decide, by decide, rfl, rfl, Or.inr ⟨rfl, rfl, rfl⟩⟩
def cq1 : List UInt8 := [226, 128, 153]

def quoteOut (a b c : ByteArray) (x y : List UInt8) : List UInt8 := a.data.toList ++ 32 :: (x ++ (b.data.toList ++ (y ++ 32 :: c.data.toList)))
def aposOut (a c : ByteArray) : List UInt8 := a.data.toList ++ (cq1 ++ c.data.toList)
theorem quoteOut_len (a b c : ByteArray) (x y : List UInt8) (q : UInt8) (hq : QMarks q x y) (ha : Word a) (hb : Word b) (hc : Word c) : (quoteOut a b c x y).length ≤ 1000000 := by
  have h1 := ha.le
  have h2 := hb.le
  have h3 := hc.le
  have h4 := hq.lx
  have h5 := hq.ly
  have e1 : a.data.toList.length = a.size := rfl
  have e2 : b.data.toList.length = b.size := rfl
  have e3 : c.data.toList.length = c.size := rfl
  simp only [quoteOut, List.length_append, List.length_cons]
  omega
theorem aposOut_len (a c : ByteArray) (ha : Word a) (hc : Word c) : (aposOut a c).length ≤ 1000000 := by
  have h1 := ha.le
  have h3 := hc.le
  have e1 : a.data.toList.length = a.size := rfl
  have e3 : c.data.toList.length = c.size := rfl
  simp only [aposOut, cq1, List.length_append, List.length_cons, List.length_nil]
  omega

theorem quote_line (a b c : ByteArray) (q : UInt8) (hq : q = 34 ∨ q = 39) (ha : Word a) (hb : Word b) (hc : Word c) : OneLn (quoteT a b c q) ∧ Begins (quoteT a b c q) 0 := by
  have hp : quoteT a b c q = strL (a.data.toList ++ ((32 :: q :: (b.data.toList ++ [q, 32])) ++ c.data.toList)) := by
    unfold quoteT quoteL
    simp
  have hqf : Fine q := by
    rcases hq with rfl | rfl
    · exact Or.inr (Or.inr (Or.inr (Or.inl rfl)))
    · exact Or.inr (Or.inr (Or.inr (Or.inr rfl)))
  rw [hp]
  have h1 := ha.pos
  have h2 := ha.le
  have h3 := hb.le
  have h4 := hc.pos
  have h5 := hc.le
  refine three_line h1 h4 ha.all hc.all (fun d hd => ?_) ?_
  · rcases List.mem_cons.1 hd with rfl | h
    · exact Or.inr (Or.inl rfl)
    rcases List.mem_cons.1 h with rfl | h
    · exact hqf
    rcases List.mem_append.1 h with h | h
    · exact Or.inl (hb.all d h)
    rcases List.mem_cons.1 h with rfl | h
    · exact hqf
    · exact Or.inr (Or.inl (List.mem_singleton.1 h))
  · have e1 : a.data.toList.length = a.size := rfl
    have e2 : b.data.toList.length = b.size := rfl
    have e3 : c.data.toList.length = c.size := rfl
    simp only [List.length_append, List.length_cons, e1, e2, e3, List.length_nil]
    omega
theorem apos_line (a c : ByteArray) (ha : Word a) (hc : Word c) : OneLn (aposT a c) ∧ Begins (aposT a c) 0 := by
  have hp : aposT a c = strL (a.data.toList ++ ([39] ++ c.data.toList)) := by
    unfold aposT aposL
    simp
  rw [hp]
  have h1 := ha.pos
  have h2 := ha.le
  have h4 := hc.pos
  have h5 := hc.le
  refine three_line h1 h4 ha.all hc.all (fun d hd => ?_) ?_
  · rw [List.mem_singleton.1 hd]
    exact Or.inr (Or.inr (Or.inr (Or.inr rfl)))
  · have e1 : a.data.toList.length = a.size := rfl
    have e3 : c.data.toList.length = c.size := rfl
    simp only [List.length_cons, e1, e3, List.length_nil]
    omega

def RowT (ts : List ByteArray) (B : Nat) (w : World) (g n cap : Nat) : Prop := B ≤ g ∧ 2 ≤ n ∧ n ≤ 1000 ∧ ∃ xs, w.ownsRow 0 132 1 (.slice (some ⟨g, 0, none⟩) n cap) n xs ∧ TextsAt w xs ts
theorem rowT_stays (ts : List ByteArray) (B : Nat) : Stays (RowT ts B) := by
  rintro S W W' g n c ⟨hB, h2, hn, xs, h1, ht⟩ hc hm
  refine ⟨hB, h2, hn, xs, hc.row hm (by omega) h1, ht.1, fun i t hi => ?_⟩
  obtain ⟨T, b, e, hT, h⟩ := ht.2 i t hi
  refine ⟨T, b, e, hT, ?_⟩
  rcases h with hb | ⟨c1, c2, c3, c4, hb⟩
  · exact Or.inl (hb.keep hm (hc.not hb (by decide) (by decide)))
  · exact Or.inr ⟨c1, c2, c3, c4, hb.keep hm (hc.not hb (by decide) (by decide))⟩

theorem merge_texts (ts : List ByteArray) (hts : (catT ts).size ≤ 1000000) (W0 : World) (bp : Nat) (p : PSt) (s : ByteArray) :
    ∀ W g n cap c, Mid W0 W bp p s c → RowT ts W0.heap.size W g n cap →
      Calls Tryz.prog 92 #[.pointer (some ⟨bp, 0, none⟩), .slice (some ⟨g, 0, none⟩) n cap] W fun e W' => ∃ g2 n2 cap2, e = .returned (.slice (some ⟨g2, 0, none⟩) n2 cap2) ∧ Mid W0 W' bp p s c ∧ Row (escN (catT ts) (catT ts).size) W' g2 n2 cap2 := by
  rintro W g n cap c hM ⟨hB, h2, hn, xs, h1, ht⟩
  refine (mergePlain_all _ g n cap xs ts W h1 ht h2 hn hts).mono ?_
  rintro e w' ⟨rfl, hm, b, hbn, hb, hr⟩
  obtain ⟨hm0, l, e0, hp⟩ := hM
  refine ⟨g, 1, cap, rfl, ⟨hm0.then hm (fun b hb x => absurd hb (by omega)), l, e0, hp.keep hm (fun x => ?_)⟩, by omega, by omega, [_], [_], hr, .plain hb hts .nil, by simp⟩
  obtain ⟨_, _, he, ⟨cur, hcur⟩, _, _⟩ := ownsRow_form h1 (by omega)
  cases he
  obtain ⟨tail, htl⟩ := id hp
  exact htl.ne_of_type hcur (by decide) x

theorem emph_row_quote (ta tb tc : ByteArray) (q : UInt8) (x y : List UInt8) (hq : QMarks q x y) (W0 : World) (bp : Nat) (p : PSt) (s : ByteArray) :
    ∀ W g n cap xs c, Held W0 W bp { p with corner := c } s s.size n (.slice (some ⟨g, 0, none⟩) n cap) xs [.plain ta, mark (strL [q]) true false 1, .plain tb, mark (strL [q]) false true 1, .plain tc] → 0 < n → n ≤ s.size + 1 →
      Calls Tryz.prog 91 #[.pointer (some ⟨bp, 0, none⟩), .slice (some ⟨g, 0, none⟩) 0 cap, .slice (some ⟨g, 0, none⟩) n cap] W fun e W' => ∃ g2 n2 cap2, e = .returned (.slice (some ⟨g2, 0, none⟩) n2 cap2) ∧ Mid W0 W' bp p s c ∧ RowT [ta, strL x, tb, strL y, tc] W0.heap.size W' g2 n2 cap2 := by
  intro W g n cap xs c h _ _
  obtain ⟨b0, b1, b2, b3, b4, rfl, k0, k1, k2, k3, k4⟩ := pcs5 h.pcs
  have k0 : Blk W b0 #[.string ta] 137 := k0
  have k2 : Blk W b2 #[.string tb] 137 := k2
  have k4 : Blk W b4 #[.string tc] 137 := k4
  have hn5 : n = 5 := by have := h.row.1; simp at this; omega
  subst hn5
  have hgf := h.fresh g rfl
  have n1 := h.new (.iface (mark (strL [q]) true false 1).ty (.pointer (some ⟨b1, 0, none⟩))) (by simp) _ b1 rfl
  have n3 := h.new (.iface (mark (strL [q]) false true 1).ty (.pointer (some ⟨b3, 0, none⟩))) (by simp) _ b3 rfl
  obtain ⟨_, _, he, ⟨cur, hcur⟩, _, _⟩ := ownsRow_form h.row (by omega)
  cases he
  have hgw := hcur.lt
  have hm13 : b1 ≠ b3 := by
    intro e
    subst e
    have x1 := k1.cell 1
    rw [k3.cell 1] at x1
    have x2 : (some (Value.bool false) : Option Value) = some (Value.bool true) := x1
    cases x2
  have hne : ∀ {b : Nat} {cs : Array Value} {T : Nat}, Blk W b cs T → T ≠ 132 → T ≠ 192 → ¬ (b = g ∨ b = b1 ∨ b = b3) := by
    rintro b cs T hb h1 h2 (e | e | e)
    · exact hb.ne_of_type hcur h1 e
    · exact hb.ne_of_type k1 h2 e
    · exact hb.ne_of_type k3 h2 e
  have hfin : ∀ (X Y : ByteArray) (e : Ending) (W' : World), (e = .returned (.slice (some ⟨g, 0, none⟩) 5 cap) ∧ QEnd W W' g cap b1 b3 156 156 156 (.pointer (some ⟨b0, 0, none⟩)) (.pointer (some ⟨b2, 0, none⟩)) (.pointer (some ⟨b4, 0, none⟩)) X Y) →
      ∃ g2 n2 cap2, e = .returned (.slice (some ⟨g2, 0, none⟩) n2 cap2) ∧ Mid W0 W' bp p s c ∧ RowT [ta, X, tb, Y, tc] W0.heap.size W' g2 n2 cap2 := by
    rintro X Y e W' ⟨rfl, sa, hE⟩
    refine ⟨g, 5, cap, rfl, ⟨h.mods.then hE.mods (fun b hb x => absurd hb (by rcases x with e | e | e <;> omega)), ?_⟩, hgf, by omega, by omega, _, hE.row, rfl, ?_⟩
    · obtain ⟨tail, htl⟩ := id h.at_
      exact ⟨_, _, h.at_.keep hE.mods (hne htl (by decide) (by decide))⟩
    · intro i t ht
      rcases i with _ | _ | _ | _ | _ | i
      · cases Option.some.inj ht
        exact ⟨_, b0, rfl, Or.inl rfl, Or.inl (k0.keep hE.mods (hne k0 (by decide) (by decide)))⟩
      · cases Option.some.inj ht
        exact ⟨_, b1, rfl, Or.inr rfl, Or.inr ⟨_, _, _, _, hE.b1⟩⟩
      · cases Option.some.inj ht
        exact ⟨_, b2, rfl, Or.inl rfl, Or.inl (k2.keep hE.mods (hne k2 (by decide) (by decide)))⟩
      · cases Option.some.inj ht
        exact ⟨_, b3, rfl, Or.inr rfl, Or.inr ⟨_, _, _, _, hE.b2⟩⟩
      · cases Option.some.inj ht
        exact ⟨_, b4, rfl, Or.inl rfl, Or.inl (k4.keep hE.mods (hne k4 (by decide) (by decide)))⟩
      · simp at ht
  rcases hq.which with ⟨rfl, rfl, rfl⟩ | ⟨rfl, rfl, rfl⟩
  · exact (emph_quote34 _ g cap b1 b3 156 156 156 (.pointer (some ⟨b0, 0, none⟩)) (.pointer (some ⟨b2, 0, none⟩)) (.pointer (some ⟨b4, 0, none⟩)) W h.row quiet_plain quiet_plain quiet_plain k1 k3 hm13 hgw).mono (hfin ⟨#[226, 128, 156]⟩ ⟨#[226, 128, 157]⟩)
  · exact (emph_quote39 _ g cap b1 b3 156 156 156 (.pointer (some ⟨b0, 0, none⟩)) (.pointer (some ⟨b2, 0, none⟩)) (.pointer (some ⟨b4, 0, none⟩)) W h.row quiet_plain quiet_plain quiet_plain k1 k3 hm13 hgw).mono (hfin ⟨#[226, 128, 152]⟩ ⟨#[226, 128, 153]⟩)

theorem escN_safe (l : List UInt8) (h : ∀ c ∈ l, c ≠ 34 ∧ c ≠ 38 ∧ c ≠ 60 ∧ c ≠ 62) : escN (strL l) (strL l).size = l := by
  rw [escN_wd]
  · simp [strL]
  · intro d hd
    exact h d (by simpa [strL] using hd)

theorem inl_quote (a b c : ByteArray) (q : UInt8) (x y : List UInt8) (pp : Nat) (hq : QMarks q x y) (ha : Word a) (hb : Word b) (hc : Word c) : InlOf ⟨false, true⟩ pp (quoteT a b c q) (quoteOut a b c x y) := by
  intro bp W p hp hO hpp hne
  have hL := (quote_line a b c q hq.hq ha hb hc).1
  have hlen := quoteOut_len a b c x y q hq ha hb hc
  have hcat : catT [strL (a.data.toList ++ [32]), strL x, b, strL y, strL (32 :: c.data.toList)] = strL (quoteOut a b c x y) := by
    unfold catT quoteOut
    simp [strL]
  have hout : escN (strL (quoteOut a b c x y)) (strL (quoteOut a b c x y)).size = quoteOut a b c x y := escN_safe _ (fun d hd => by
    unfold quoteOut at hd
    rcases List.mem_append.1 hd with h | h
    · exact wd_safe (ha.all d h)
    rcases List.mem_cons.1 h with rfl | h
    · decide
    rcases List.mem_append.1 h with h | h
    · exact hq.hx d h
    rcases List.mem_append.1 h with h | h
    · exact wd_safe (hb.all d h)
    rcases List.mem_append.1 h with h | h
    · exact hq.hy d h
    rcases List.mem_cons.1 h with rfl | h
    · decide
    · exact wd_safe (hc.all d h))
  have hsz : (strL (quoteOut a b c x y)).size ≤ 1000000 := by rw [strL_size]; exact hlen
  have hM := merge_texts [strL (a.data.toList ++ [32]), strL x, b, strL y, strL (32 :: c.data.toList)] (by rw [hcat]; exact hsz) W bp p (quoteT a b c q)
  rw [hcat, hout] at hM
  exact inline_gen ⟨false, true⟩ bp p (quoteT a b c q) W hp hL.small hL.pos _ (quote_plan a b c q hq.hq ⟨false, true⟩ rfl ha hb hc) (hO.opt hpp 3 (by omega) (by decide) (by decide)) (hO.op hpp) (by rw [hpp]; exact hne)
    (trimSpaceTab_id _ W (by have := hL.small; omega) hL.pos hL.first hL.last) _ _ (rowT_stays _ _) (row_stays _) (emph_row_quote _ b _ q x y hq W bp p _) hM

theorem pcs3 {w : World} {xs : List Value} {p0 p1 p2 : Pc} (h : PcsAt w xs [p0, p1, p2]) :
    ∃ b0 b1 b2, xs = [.iface p0.ty (.pointer (some ⟨b0, 0, none⟩)), .iface p1.ty (.pointer (some ⟨b1, 0, none⟩)), .iface p2.ty (.pointer (some ⟨b2, 0, none⟩))] ∧ Blk w b0 p0.cells p0.bty ∧ Blk w b1 p1.cells p1.bty ∧ Blk w b2 p2.cells p2.bty := by
  rcases xs with _ | ⟨x0, _ | ⟨x1, _ | ⟨x2, _ | ⟨x3, xs⟩⟩⟩⟩
  · exact h.elim
  · exact h.2.elim
  · exact h.2.2.elim
  · obtain ⟨⟨_, b0, rfl, k0⟩, ⟨_, b1, rfl, k1⟩, ⟨_, b2, rfl, k2⟩, _⟩ := h
    exact ⟨b0, b1, b2, rfl, k0, k1, k2⟩
  · exact h.2.2.2.elim

theorem emph_row_apos (ta tc : ByteArray) (W0 : World) (bp : Nat) (p : PSt) (s : ByteArray) :
    ∀ W g n cap xs c, Held W0 W bp { p with corner := c } s s.size n (.slice (some ⟨g, 0, none⟩) n cap) xs [.plain ta, mark (strL [39]) false true 1, .plain tc] → 0 < n → n ≤ s.size + 1 →
      Calls Tryz.prog 91 #[.pointer (some ⟨bp, 0, none⟩), .slice (some ⟨g, 0, none⟩) 0 cap, .slice (some ⟨g, 0, none⟩) n cap] W fun e W' => ∃ g2 n2 cap2, e = .returned (.slice (some ⟨g2, 0, none⟩) n2 cap2) ∧ Mid W0 W' bp p s c ∧ RowT [ta, strL cq1, tc] W0.heap.size W' g2 n2 cap2 := by
  intro W g n cap xs c h _ _
  obtain ⟨b0, b1, b2, rfl, k0, k1, k2⟩ := pcs3 h.pcs
  have k0 : Blk W b0 #[.string ta] 137 := k0
  have k2 : Blk W b2 #[.string tc] 137 := k2
  have hn3 : n = 3 := by have := h.row.1; simp at this; omega
  subst hn3
  have hgf := h.fresh g rfl
  have n1 := h.new (.iface (mark (strL [39]) false true 1).ty (.pointer (some ⟨b1, 0, none⟩))) (by simp) _ b1 rfl
  obtain ⟨_, _, he, ⟨cur, hcur⟩, _, _⟩ := ownsRow_form h.row (by omega)
  cases he
  have hgw := hcur.lt
  have hne : ∀ {b : Nat} {cs : Array Value} {T : Nat}, Blk W b cs T → T ≠ 132 → T ≠ 192 → ¬ (b = g ∨ b = b1 ∨ b = b1) := by
    rintro b cs T hb h1 h2 (e | e | e)
    · exact hb.ne_of_type hcur h1 e
    · exact hb.ne_of_type k1 h2 e
    · exact hb.ne_of_type k1 h2 e
  refine (emph_apos _ g cap b1 156 156 (.pointer (some ⟨b0, 0, none⟩)) (.pointer (some ⟨b2, 0, none⟩)) W h.row quiet_plain quiet_plain k1 hgw).mono ?_
  rintro e W' ⟨rfl, sa, hE⟩
  refine ⟨g, 3, cap, rfl, ⟨h.mods.then hE.mods (fun b hb x => absurd hb (by rcases x with e | e | e <;> omega)), ?_⟩, hgf, by omega, by omega, _, hE.row, rfl, ?_⟩
  · obtain ⟨tail, htl⟩ := id h.at_
    exact ⟨_, _, h.at_.keep hE.mods (hne htl (by decide) (by decide))⟩
  · intro i t ht
    rcases i with _ | _ | _ | i
    · cases Option.some.inj ht
      exact ⟨_, b0, rfl, Or.inl rfl, Or.inl (k0.keep hE.mods (hne k0 (by decide) (by decide)))⟩
    · cases Option.some.inj ht
      exact ⟨_, b1, rfl, Or.inl rfl, Or.inr ⟨_, _, _, _, hE.b1⟩⟩
    · cases Option.some.inj ht
      exact ⟨_, b2, rfl, Or.inl rfl, Or.inl (k2.keep hE.mods (hne k2 (by decide) (by decide)))⟩
    · simp at ht

theorem inl_apos (a c : ByteArray) (pp : Nat) (ha : Word a) (hc : Word c) : InlOf ⟨false, true⟩ pp (aposT a c) (aposOut a c) := by
  intro bp W p hp hO hpp hne
  have hL := (apos_line a c ha hc).1
  have hlen := aposOut_len a c ha hc
  have hcat : catT [a, strL cq1, c] = strL (aposOut a c) := by
    unfold catT aposOut
    simp [strL]
  have hout : escN (strL (aposOut a c)) (strL (aposOut a c)).size = aposOut a c := escN_safe _ (fun d hd => by
    unfold aposOut at hd
    rcases List.mem_append.1 hd with h | h
    · exact wd_safe (ha.all d h)
    rcases List.mem_append.1 h with h | h
    · have h9 : d = 226 ∨ d = 128 ∨ d = 153 := by simpa [cq1] using h
      rcases h9 with rfl | rfl | rfl <;> decide
    · exact wd_safe (hc.all d h))
  have hsz : (strL (aposOut a c)).size ≤ 1000000 := by rw [strL_size]; exact hlen
  have hM := merge_texts [a, strL cq1, c] (by rw [hcat]; exact hsz) W bp p (aposT a c)
  rw [hcat, hout] at hM
  exact inline_gen ⟨false, true⟩ bp p (aposT a c) W hp hL.small hL.pos _ (apos_plan a c ⟨false, true⟩ rfl ha hc) (hO.opt hpp 3 (by omega) (by decide) (by decide)) (hO.op hpp) (by rw [hpp]; exact hne)
    (trimSpaceTab_id _ W (by have := hL.small; omega) hL.pos hL.first hL.last) _ _ (rowT_stays _ _) (row_stays _) (emph_row_apos a c W bp p _) hM
end Go.Proofs.YtdnlfdppjfjncaaGreatDoor.G

/- FnSmartQuotes answers true. -/
namespace Go.Proofs.YtdnlfdppjfjncaaGreatDoor.G
open Go Go.RowKit Go.Proofs

theorem quote_text (a b c : ByteArray) : a ++ (⟨#[32, 34]⟩ : ByteArray) ++ b ++ (⟨#[34, 32]⟩ : ByteArray) ++ c = quoteT a b c 34 := by
  apply ByteArray.ext
  simp [quoteT, quoteL, strL]
theorem quote_text1 (a b c : ByteArray) : a ++ (⟨#[32, 39]⟩ : ByteArray) ++ b ++ (⟨#[39, 32]⟩ : ByteArray) ++ c = quoteT a b c 39 := by
  apply ByteArray.ext
  simp [quoteT, quoteL, strL]
theorem apos_text (a c : ByteArray) : a ++ (⟨#[39]⟩ : ByteArray) ++ c = aposT a c := by
  apply ByteArray.ext
  simp [aposT, aposL, strL]

def quoteW (a b c : ByteArray) (x y : List UInt8) : ByteArray := (⟨#[60, 112, 62]⟩ : ByteArray) ++ a ++ (strL (32 :: x)) ++ b ++ (strL (y ++ [32])) ++ c ++ (⟨#[60, 47, 112, 62, 10]⟩ : ByteArray)
theorem quote_want (a b c : ByteArray) (x y : List UInt8) : (⟨(pOpen ++ quoteOut a b c x y ++ pClose).toArray⟩ : ByteArray) = quoteW a b c x y := by
  apply ByteArray.ext
  simp [quoteW, quoteOut, pOpen, pClose, strL]
def aposW (a c : ByteArray) : ByteArray := (⟨#[60, 112, 62]⟩ : ByteArray) ++ a ++ (⟨#[226, 128, 153]⟩ : ByteArray) ++ c ++ (⟨#[60, 47, 112, 62, 10]⟩ : ByteArray)
theorem apos_want (a c : ByteArray) : (⟨(pOpen ++ aposOut a c ++ pClose).toArray⟩ : ByteArray) = aposW a c := by
  apply ByteArray.ext
  simp [aposW, aposOut, pOpen, pClose, cq1]

theorem quote_size (a b c : ByteArray) (q : UInt8) : (quoteT a b c q).size = a.size + b.size + c.size + 4 := by
  have e1 : a.data.toList.length = a.size := rfl
  have e2 : b.data.toList.length = b.size := rfl
  have e3 : c.data.toList.length = c.size := rfl
  rw [quoteT, strL_size, quoteL]
  simp only [List.length_append, List.length_cons, e1, e2, e3]
  omega
theorem apos_size (a c : ByteArray) : (aposT a c).size = a.size + c.size + 1 := by
  have e1 : a.data.toList.length = a.size := rfl
  have e3 : c.data.toList.length = c.size := rfl
  rw [aposT, strL_size, aposL]
  simp only [List.length_append, List.length_cons, e1, e3]
  omega

theorem html_quote (a b c : ByteArray) (q : UInt8) (x y : List UInt8) (w : World) (hq : QMarks q x y) (ha : Word a) (hb : Word b) (hc : Word c) :
    Calls Tryz.prog 17 #[.agg #[.bool false, .bool false, .bool false, .bool false, .bool false, .bool false, .bool false, .bool true, .bool false, .bool false], .string (quoteT a b c q)] w fun e w' => e = .returned (.string (quoteW a b c x y)) ∧ Same w w' := by
  obtain ⟨hL, hB⟩ := quote_line a b c q hq.hq ha hb hc
  have hl := quoteOut_len a b c x y q hq ha hb hc
  have h := html_one ⟨false, true⟩ (quoteT a b c q) w hL hB _ hl (fun pp => inl_quote a b c q x y pp hq ha hb hc)
  rw [quote_want] at h
  exact h

theorem html_apos (a c : ByteArray) (w : World) (ha : Word a) (hc : Word c) :
    Calls Tryz.prog 17 #[.agg #[.bool false, .bool false, .bool false, .bool false, .bool false, .bool false, .bool false, .bool true, .bool false, .bool false], .string (aposT a c)] w fun e w' => e = .returned (.string (aposW a c)) ∧ Same w w' := by
  obtain ⟨hL, hB⟩ := apos_line a c ha hc
  have hl := aposOut_len a c ha hc
  have h := html_one ⟨false, true⟩ (aposT a c) w hL hB _ hl (fun pp => inl_apos a c pp ha hc)
  rw [apos_want] at h
  exact h

set_option maxHeartbeats 8000000 in
theorem law_quotes (a b c : ByteArray) (single : Bool) (w : World) :
    Calls Tryz.prog 12 #[.string a, .string b, .string c, .bool single] w fun e w' => e = .returned (.bool true) ∧ Same w w' := by
  by_cases ba : 2147483647 < a.size
  · have w0 : (2147483647 : Int) < a.size := by omega
    go_enter Tryz.func12, Tryz.ntmps12
    go_wp2_with fail
    go_ret
    exact ⟨rfl, Mods.refl _ _⟩
  have w0 : ¬ (2147483647 : Int) < a.size := by omega
  by_cases bb : 2147483647 < b.size
  · have w1 : (2147483647 : Int) < b.size := by omega
    go_enter Tryz.func12, Tryz.ntmps12
    go_wp2_with fail
    go_ret
    exact ⟨rfl, Mods.refl _ _⟩
  have w1 : ¬ (2147483647 : Int) < b.size := by omega
  by_cases bc : 2147483647 < c.size
  · have w2 : (2147483647 : Int) < c.size := by omega
    go_enter Tryz.func12, Tryz.ntmps12
    go_wp2_with fail
    go_ret
    exact ⟨rfl, Mods.refl _ _⟩
  have w2 : ¬ (2147483647 : Int) < c.size := by omega
  cases hA : wordB a with
  | false =>
    go_enter Tryz.func12, Tryz.ntmps12
    go_wp2_with fail
    refine (word_any a w (by omega)).mono ?_
    rintro e w' ⟨rfl, rfl⟩
    rw [hA]
    go_wp2_with fail
    go_ret
    exact ⟨rfl, Mods.refl _ _⟩
  | true =>
  cases hB : wordB b with
  | false =>
    go_enter Tryz.func12, Tryz.ntmps12
    go_wp2_with fail
    refine (word_any a w (by omega)).mono ?_
    rintro e w' ⟨rfl, rfl⟩
    rw [hA]
    go_wp2_with fail
    refine (word_any b w (by omega)).mono ?_
    rintro e w' ⟨rfl, rfl⟩
    rw [hB]
    go_wp2_with fail
    go_ret
    exact ⟨rfl, Mods.refl _ _⟩
  | true =>
  cases hC : wordB c with
  | false =>
    go_enter Tryz.func12, Tryz.ntmps12
    go_wp2_with fail
    refine (word_any a w (by omega)).mono ?_
    rintro e w' ⟨rfl, rfl⟩
    rw [hA]
    go_wp2_with fail
    refine (word_any b w (by omega)).mono ?_
    rintro e w' ⟨rfl, rfl⟩
    rw [hB]
    go_wp2_with fail
    refine (word_any c w (by omega)).mono ?_
    rintro e w' ⟨rfl, rfl⟩
    rw [hC]
    go_wp2_with fail
    go_ret
    exact ⟨rfl, Mods.refl _ _⟩
  | true =>
  have WA := wordB_word hA
  have WB := wordB_word hB
  have WC := wordB_word hC
  have sa := WA.le
  have sb := WB.le
  have sc := WC.le
  cases single with
  | false =>
    have HT := Lib.hid (quote_text a b c)
    have hsz := quote_size a b c 34
    have sz : (quoteT a b c 34).size ≤ 64 := by omega
    clear hsz
    go_enter Tryz.func12, Tryz.ntmps12
    go_wp2_with fail
    refine (word_any a w (by omega)).mono ?_
    rintro e w' ⟨rfl, rfl⟩
    rw [hA]
    go_wp2_with fail
    refine (word_any b w (by omega)).mono ?_
    rintro e w' ⟨rfl, rfl⟩
    rw [hB]
    go_wp2_with fail
    refine (word_any c w (by omega)).mono ?_
    rintro e w' ⟨rfl, rfl⟩
    rw [hC]
    clear hA hB hC
    go_wp2_with fail
    rw [HT.out]
    refine (html_quote a b c 34 _ _ w marks34 WA WB WC).mono ?_
    rintro e w1 ⟨rfl, hm1⟩
    unfold quoteW strL
    go_wp2_with fail
    go_ret
    exact ⟨by simp, hm1⟩
  | true =>
    have HT := Lib.hid (quote_text1 a b c)
    have HT2 := Lib.hid (apos_text a c)
    have hsz := quote_size a b c 39
    have sz : (quoteT a b c 39).size ≤ 64 := by omega
    have hsz2 := apos_size a c
    have sz2 : (aposT a c).size ≤ 41 := by omega
    clear hsz hsz2
    go_enter Tryz.func12, Tryz.ntmps12
    go_wp2_with fail
    refine (word_any a w (by omega)).mono ?_
    rintro e w' ⟨rfl, rfl⟩
    rw [hA]
    go_wp2_with fail
    refine (word_any b w (by omega)).mono ?_
    rintro e w' ⟨rfl, rfl⟩
    rw [hB]
    go_wp2_with fail
    refine (word_any c w (by omega)).mono ?_
    rintro e w' ⟨rfl, rfl⟩
    rw [hC]
    clear hA hB hC
    go_wp2_with fail
    rw [HT.out]
    refine (html_quote a b c 39 _ _ w marks39 WA WB WC).mono ?_
    rintro e w1 ⟨rfl, hm1⟩
    unfold quoteW strL
    go_wp2_with fail
    rw [HT2.out]
    refine (html_apos a c w1 WA WC).mono ?_
    rintro e w2 ⟨rfl, hm2⟩
    unfold aposW
    go_wp2_with fail
    go_ret
    exact ⟨by simp, hm1.trans hm2⟩
end Go.Proofs.YtdnlfdppjfjncaaGreatDoor.G
