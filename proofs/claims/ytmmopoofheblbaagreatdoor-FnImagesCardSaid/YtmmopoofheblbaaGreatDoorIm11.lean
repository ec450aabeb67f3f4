/- Some texts of one proof, put into one file: Em7, Em8, Em9, Em10, Em5a, Em5b. -/
import Derived.Deep.RegionHeld3
import Derived.StillTailTactics
import Derived.Test.YtmmopoofheblbaaGreatDoorIm10
/- emph: what stands behind the opener becomes a list of its own. -/
namespace Go.Proofs.YtmmopoofheblbaaGreatDoor.T
open Go Go.RowKit Go.Proofs

noncomputable def c38 : Code := snd c37

theorem st_copy {w : World} {ops : Array Oper} {o : Oper} {a : Act} {K : Act → World → Prop} {Q : Exit → Act → World → Prop} {E : Prop} (hgd : o.guard = none) (s x : Operand) (ho : o.op = .call { callee := .builtin .append, args := #[s, x], argTypes := #[84, 84] })
    (hs : a.eval s = .slice none 0 0) (b off c m : Nat) (news : List Value) (hx : a.eval x = .slice (some ⟨b, off, none⟩) m c) (hl : news.length = m) (hm : 0 < m) (hu : ∀ t u, news[t]? = some u → w.cell? ⟨b, off + t, none⟩ = some u) (h1 : ∀ u, u ∈ news → u.oneCell' = true) (hn : m ≤ 1000000)
    (h : ∀ g cap w', w'.ownsRow 0 157 1 (.slice (some ⟨g, 0, none⟩) m cap) m news → Same w w' → g = w.heap.size → K (a.put o.dst (.slice (some ⟨g, 0, none⟩) m cap)) w') :
    if Region.wanted o (yielded ops a.tmps) = true then Oper.wp Tryz.prog o a w K Q else E := by
  have hi : (Tryz.prog.info? 157).map (fun i => (i.zero, i.size, i.bytes)) = some (some Value.nilIface, 1, 16) := by kernel_rfl
  obtain ⟨i0, hi0, hz⟩ := Option.map_eq_some_iff.1 hi
  simp only [Prod.mk.injEq] at hz
  obtain ⟨hz0, hz1, hz2⟩ := hz
  refine step_append_lies w hgd s x 84 ho 0 157 i0 .nilIface 1 16 Tryz.underlying84 hi0 hz0 hz1 hz2 rfl (by decide) (.slice none 0 0) 0 [] hs ⟨rfl, Or.inl ⟨rfl, rfl⟩⟩ ⟨b, off, none⟩ m c news hx (by omega) ?_ h1 hm (by unfold maxLen; omega) (by omega) (Nat.zero_le _) _ rfl (fun g cap w' h2 h3 h4 _ => ?_)
  · intro t y hy
    have h5 := hu t y hy
    unfold Addr.add
    split
    · rename_i h6
      subst h6
      exact h5
    · exact h5
  · simp only [Nat.zero_add, List.nil_append] at h2 ⊢
    refine h g cap w' h2 ((grown_mods h3).mono (fun _ _ x => by cases x)) ?_
    rcases h4 with h4 | h4
    · cases h4
    · exact h4

def Fr38 (q d0 sv : Value) (D S i m kx j mo d : Nat) (del : Bool) (db : Nat) (a : Act) : Prop := ∃ v : Nat → Value, a = ⟨#[q, d0, sv, undef, .pointer (some ⟨D, 0, none⟩), undef, .slice none 0 0, .pointer (some ⟨S, 0, none⟩), .func (.func 159) #[] #[], .func (.func 160) #[] #[.pointer (some ⟨S, 0, none⟩), .pointer (some ⟨D, 0, none⟩)], .int .i64 i, v 11, v 12, .pointer (some ⟨m, 0, none⟩), v 14, .pointer (some ⟨S, kx, none⟩), .int .i64 j, .pointer (some ⟨mo, 0, none⟩), .int .i64 d, .bool del, .pointer (some ⟨db, 0, none⟩), v 21, .func (.func 160) #[] #[.pointer (some ⟨S, 0, none⟩), .pointer (some ⟨D, 0, none⟩)], v 23, v 24, v 25, v 26, v 27, v 28, v 29, v 30, v 31, v 32, v 33, v 34, v 35, v 36, v 37, v 38, v 39, v 40, v 41, v 42, v 43, v 44, v 45, v 46, v 47, v 48, v 49, v 50, v 51, v 52, v 53, v 54, v 55, v 56, v 57, v 58, v 59, v 60, v 61, v 62, v 63, v 64, v 65, v 66, v 67, v 68, v 69, v 70, v 71, v 72, v 73, v 74, v 75, v 76, v 77, v 78, v 79, v 80, v 81, v 82, v 83, v 84, v 85, v 86, v 87, v 88, v 89, v 90, v 91, v 92, v 93, v 94, v 95, v 96, v 97, v 98, v 99, v 100, v 101, v 102, v 103, v 104, v 105, v 106, v 107, v 108, v 109, v 110, v 111, v 112, v 113, v 114, v 115, v 116, v 117, v 118, v 119, v 120, v 121, v 122, v 123, v 124, v 125, v 126, v 127, v 128, v 129, v 130, v 131, v 132, v 133, v 134, v 135, v 136, v 137, v 138, v 139, v 140, v 141, v 142, v 143, v 144, v 145, v 146, v 147, v 148, v 149, v 150, v 151, v 152, v 153, v 154, v 155, v 156, v 157, v 158, v 159, v 160, v 161, v 162, v 163, v 164, v 165, v 166, v 167, v 168, v 169, v 170, v 171, v 172, v 173, v 174, v 175, v 176, v 177, v 178, v 179, v 180, v 181, v 182, v 183, v 184, v 185, v 186, v 187, v 188, v 189, v 190, v 191, v 192, v 193, v 194, v 195, v 196, v 197, v 198, v 199, v 200, v 201, v 202, v 203, v 204, v 205, v 206, v 207, v 208, v 209, v 210, v 211, v 212, v 213, v 214, v 215, v 216, v 217, v 218, v 219, v 220, v 221, v 222, v 223, v 224, v 225, v 226, v 227, v 228, v 229, v 230, v 231, v 232, v 233, v 234, v 235, v 236, v 237, v 238, v 239, v 240, v 241, v 242, v 243, v 244, v 245, v 246, v 247, v 248, v 249, v 250, v 251, v 252, v 253, v 254, v 255, v 256, v 257, v 258, v 259, v 260, v 261, v 262, v 263, v 264, v 265, v 266, v 267, v 268, v 269, v 270, v 271, v 272, v 273, v 274, v 275, v 276, v 277, v 278, v 279, v 280, v 281, v 282, v 283, v 284, v 285, v 286, v 287, v 288, v 289, v 290, v 291, v 292, v 293, v 294, v 295, v 296, v 297, v 298, v 299, v 300, v 301, v 302, v 303, v 304, v 305, v 306, v 307, v 308, v 309, v 310, v 311, v 312, v 313, v 314, v 315, v 316, v 317, v 318, v 319, v 320, v 321, v 322, v 323, v 324, v 325, v 326, v 327, v 328, v 329, v 330, v 331, v 332, v 333, v 334, v 335, v 336, v 337, v 338, v 339, v 340, v 341, v 342, v 343, v 344, v 345, v 346, v 347, v 348, v 349, v 350, v 351, v 352, v 353, v 354, v 355, v 356, v 357, v 358, v 359, v 360, v 361, v 362, v 363, v 364, v 365, v 366, v 367, v 368, v 369, v 370, v 371, v 372, v 373, v 374, v 375, v 376, v 377, v 378, v 379, v 380, v 381, v 382, v 383, v 384, v 385, v 386, v 387, v 388, v 389, v 390, v 391, v 392, v 393, v 394, v 395, v 396, v 397, v 398, v 399, v 400, v 401, v 402, v 403, v 404, v 405, v 406, v 407, v 408, v 409, v 410, v 411, v 412, v 413, v 414, v 415, v 416, v 417, v 418, v 419, v 420, v 421, v 422, v 423, v 424, v 425, v 426, v 427, v 428, v 429, v 430, v 431, v 432, v 433, v 434, v 435], []⟩

set_option maxRecDepth 100000 in
set_option maxHeartbeats 20000000 in
theorem r37 (q d0 sv : Value) (D S i kx jx pm om d : Nat) (del : Bool) (g N dc j : Nat) (tt : ByteArray) (news : List Value) (w : World) (cp co : Array Value) (hP : Blk w pm cp 268) (hp0 : cp[0]? = some (.string tt)) (hO : Blk w om co 268) (ho3 : co[3]? = some (.int .i64 j)) (hd1 : d ≤ tt.size) (htt : tt.size ≤ 1000000) (hDb : ∃ T, Blk w D #[.slice (some ⟨g, 0, none⟩) N dc] T)
    (hj : j + 1 < N) (hN : N ≤ dc) (hdc : dc ≤ maxLen) (hN6 : N ≤ 1000000) (hnl : news.length = N - (j + 1)) (hnc : ∀ t u, news[t]? = some u → w.cell? ⟨g, j + 1 + t, none⟩ = some u) (hn1 : ∀ u, u ∈ news → u.oneCell' = true) (Q : Exit → Act → World → Prop)
    (hnext : ∀ a' w' db ig ic, Fr38 q d0 sv D S i pm kx jx om d del db a' → Same w w' → w'.ownsRow 0 157 1 (.slice (some ⟨ig, 0, none⟩) (N - (j + 1)) ic) (N - (j + 1)) news → Blk w' db #[.string (tt.extract 0 d), .slice (some ⟨ig, 0, none⟩) (N - (j + 1)) ic] 202 → w.heap.size ≤ ig → w.heap.size ≤ db → Code.wp Tryz.prog c38 Q a' w')
    (a : Act) (ha : Fr37 q d0 sv D S i pm kx jx om d del a) : Code.wp Tryz.prog (fst c37) (Exit.then (Code.wp Tryz.prog (snd c37) Q) Q) a w := by
  obtain ⟨v, rfl⟩ := ha
  conv => arg 2; whnf
  have HN := Lib.hid hnext
  obtain ⟨TD, hDb⟩ := hDb
  have x0 : w.cell? ⟨pm, 0, none⟩ = some (.string tt) := (hP.cell 0).trans hp0
  have z3 : w.cell? ⟨om, 3, none⟩ = some (.int .i64 j) := (hO.cell 3).trans ho3
  have HP := Lib.hid hp0
  have HO := Lib.hid ho3
  clear hp0 ho3
  have k0 : w.cell? ⟨D, 0, none⟩ = some (.slice (some ⟨g, 0, none⟩) N dc) := hDb.cell 0
  unfold maxLen at hdc
  have c1 : IntKind.i64.wrap ((j : Int) + 1) = (j : Int) + 1 := IntWalk.i64_in _ (by omega)
  have c2 : (0 : Int) ≤ (j : Int) + 1 := by omega
  have c3 : (j : Int) + 1 ≤ N := by omega
  have c4 : (N : Int) ≤ dc := by omega
  have c5 : (j : Int) + 1 ≤ dc := by omega
  have c6 : ¬ dc = j + 1 := by omega
  have c7 : ((j : Int) + 1).toNat = j + 1 := by omega
  have c8 : (d : Int) ≤ tt.size := by omega
  have c9 : (0 : Int) ≤ d := by omega
  have c10 : ¬ (dc : Int) = (j : Int) + 1 := by omega
  have HNL := Lib.hid hnl
  have HNC := Lib.hid hnc
  have HN1 := Lib.hid hn1
  clear hnext hnl hnc hn1
  go_region_held3 (fun w' => w'.cell? ⟨D, 0, none⟩ = some (.slice (some ⟨g, 0, none⟩) N dc) ∧ w'.cell? ⟨pm, 0, none⟩ = some (.string tt) ∧ w'.cell? ⟨om, 3, none⟩ = some (.int .i64 j)) (first | (refine ⟨?_, ?_, ?_⟩ <;> assumption) | go_keep)
    ((refine st_copy (by rfl) (.const (.slice none 0 0)) (.tmp 291) (by rfl) (by rfl) g (j + 1) (dc - (j + 1)) (N - (j + 1)) news (by rfl) HNL.out (by omega) (by exact HNC.out) (by exact HN1.out) (by omega) ?_; intro ig ic w1 hrow hsame hig; have n0 : w1.cell? ⟨D, 0, none⟩ = some (.slice (some ⟨g, 0, none⟩) N dc) := (hsame.blk (Blk.drew hDb)).cell 0; have n1 : w1.cell? ⟨pm, 0, none⟩ = some (.string tt) := ((hsame.blk (Blk.drew hP)).cell 0).trans HP.out; have n3 : w1.cell? ⟨om, 3, none⟩ = some (.int .i64 j) := ((hsame.blk (Blk.drew hO)).cell 3).trans HO.out))
  clear k0 x0 z3 n0 n1 n3
  subst hig
  have hS1 : Same w w1 := Mods.trans ((Mods.refl (fun _ => False) w).drew) hsame
  have hS2 : Same w1 (w1.alloc (Obj.cells #[.string (tt.extract 0 d), .slice (some ⟨w.heap.size, 0, none⟩) (N - (j + 1)) ic] 202)) := (Mods.refl (fun _ => False) w1).alloc _
  exact HN.out _ _ w1.heap.size w.heap.size ic ⟨(fun d => cond (Nat.ble 278 d && Nat.ble d 294) (cond (Nat.ble d 293) (List.getD [_, _, _, _, _, _, _, _, _, _, _, _, _, _, _, _] (d - 278) undef) (List.getD [_] (d - 294) undef)) (v d)), rfl⟩ (hS1.trans hS2) (ownsRow_keep hrow hS2 (fun _ _ x => x)) (Blk.newAt _ _ rfl) (Nat.le_refl _) hS1.size
end Go.Proofs.YtmmopoofheblbaaGreatDoor.T

/- emph: an opener and a closer become a node. -/
namespace Go.Proofs.YtmmopoofheblbaaGreatDoor.T
open Go Go.RowKit Go.Proofs

theorem Av.lt {E : EE} {w : World} {s : ES} (h : EmG E w s) {b : Nat} (hb : Av E s b) : b < w.heap.size := by
  have hz := h.r.mods.size
  rcases hb with hb | hb | ⟨a, ha, rfl⟩
  · have := h.r.a0 b hb
    omega
  · unfold live at hb
    rcases List.mem_append.1 hb with hb | hb
    · obtain ⟨x, hx, rfl⟩ := List.mem_map.1 hb
      have := (marksFrom_get s.dst 0 x.1 x.2).1 hx
      exact Blk.lt (h.r.dstMk x.1 x.2 (by simpa using this.2)).2.1
    · rcases List.mem_append.1 hb with hb | hb
      · obtain ⟨p, hp, rfl⟩ := List.mem_map.1 hb
        obtain ⟨_, i, hi⟩ := h.r.hnd p hp
        exact Blk.lt hi
      · have key : ∀ (l : List Sr) (i : Nat), (∀ j t, l[j]? = some t → E.src[i + j]? = some t) → s.i ≤ i → ∀ b, b ∈ liveS l → b < w.heap.size := by
          intro l
          induction l with
          | nil => intro i _ _ b hb; cases hb
          | cons x l ih =>
            intro i hx hi b hb
            have ht := ih (i + 1) (fun j t hj => by rw [show i + 1 + j = i + (j + 1) by omega]; exact hx (j + 1) t (by simpa using hj)) (by omega) b
            cases x with
            | fin t => exact ht hb
            | opn t i => exact ht hb
            | mk p =>
              rcases List.mem_cons.1 hb with e | hb
              · subst e
                obtain ⟨a, ha⟩ := h.r.srcMk i p hi (hx 0 _ rfl)
                exact Blk.lt ha
              · exact ht hb
        exact key _ s.i (fun j t hj => by rw [List.getElem?_drop] at hj; exact hj) (Nat.le_refl _) b hb
  · obtain ⟨cur, hc⟩ := row_blk h.lst.row (own_of ⟨a, ha, rfl⟩)
    exact hc.lt

/-- The node that is made. -/
theorem node_at {E : EE} {w w1 w2 : World} {s : ES} (h : EmG E w s) (c : UInt8) (j : Nat) (o p : Mk) (hh : s.hand = [p]) (hj : s.dst[j]? = some (.mk o)) (d db ig ic m : Nat) (kids : List Inl) (news : List Value) (hig : w.heap.size ≤ ig) (hdb : w.heap.size ≤ db)
    (hrow : w1.ownsRow 0 157 1 (.slice (some ⟨ig, 0, none⟩) m ic) m news) (hB : Blk w1 db #[.string (run c d), .slice (some ⟨ig, 0, none⟩) m ic] 202)
    (hm : Mods (fun b => b = o.m ∨ b = p.m ∨ b = E.D ∨ b = E.S) w1 w2) (hk : InlsAt (Av E (s.close j o p)) w2 kids news) (hsub : ∀ b, Av E (s.close j o p) b → Av E s b) :
    InlAt (Av E (s.close j o p)) w2 (emNode c d kids) (.iface (if c = 126 then 205 else if d = 2 then 203 else 200) (.pointer (some ⟨db, 0, none⟩))) := by
  have ho : o.m < w.heap.size := Blk.lt (h.r.dstMk j o hj).2.1
  have hp : p.m < w.heap.size := by
    obtain ⟨_, i, hi⟩ := h.r.hnd p (by rw [hh]; exact List.mem_singleton_self _)
    exact Blk.lt hi
  have hD := h.D.lt
  have hS := h.r.S.lt
  have hno : ∀ b, w.heap.size ≤ b → ¬ (b = o.m ∨ b = p.m ∨ b = E.D ∨ b = E.S) := by
    rintro b hb (rfl | rfl | rfl | rfl) <;> omega
  have hna : ∀ b, w.heap.size ≤ b → ¬ Av E (s.close j o p) b := fun b hb ha => by
    have := Av.lt h (hsub b ha)
    omega
  simp only [emNode, InlAt]
  refine ⟨db, _, .slice (some ⟨ig, 0, none⟩) m ic, m, news, rfl, hB.keep hm (hno db hdb), hna db hdb, tt_emph, ownsRow_keep hrow hm (fun g hg => ?_), fun g hg => ?_, hk⟩
  · cases hg
    exact hno ig hig
  · cases hg
    exact hna ig hig

def Fr3 (q d0 sv : Value) (D S i m kx : Nat) (a : Act) : Prop := ∃ v : Nat → Value, a = ⟨#[q, d0, sv, undef, .pointer (some ⟨D, 0, none⟩), undef, .slice none 0 0, .pointer (some ⟨S, 0, none⟩), .func (.func 159) #[] #[], .func (.func 160) #[] #[.pointer (some ⟨S, 0, none⟩), .pointer (some ⟨D, 0, none⟩)], .int .i64 i, v 11, v 12, .pointer (some ⟨m, 0, none⟩), v 14, .pointer (some ⟨S, kx, none⟩), v 16, v 17, v 18, v 19, v 20, v 21, .func (.func 160) #[] #[.pointer (some ⟨S, 0, none⟩), .pointer (some ⟨D, 0, none⟩)], v 23, v 24, v 25, v 26, v 27, v 28, v 29, v 30, v 31, v 32, v 33, v 34, v 35, v 36, v 37, v 38, v 39, v 40, v 41, v 42, v 43, v 44, v 45, v 46, v 47, v 48, v 49, v 50, v 51, v 52, v 53, v 54, v 55, v 56, v 57, v 58, v 59, v 60, v 61, v 62, v 63, v 64, v 65, v 66, v 67, v 68, v 69, v 70, v 71, v 72, v 73, v 74, v 75, v 76, v 77, v 78, v 79, v 80, v 81, v 82, v 83, v 84, v 85, v 86, v 87, v 88, v 89, v 90, v 91, v 92, v 93, v 94, v 95, v 96, v 97, v 98, v 99, v 100, v 101, v 102, v 103, v 104, v 105, v 106, v 107, v 108, v 109, v 110, v 111, v 112, v 113, v 114, v 115, v 116, v 117, v 118, v 119, v 120, v 121, v 122, v 123, v 124, v 125, v 126, v 127, v 128, v 129, v 130, v 131, v 132, v 133, v 134, v 135, v 136, v 137, v 138, v 139, v 140, v 141, v 142, v 143, v 144, v 145, v 146, v 147, v 148, v 149, v 150, v 151, v 152, v 153, v 154, v 155, v 156, v 157, v 158, v 159, v 160, v 161, v 162, v 163, v 164, v 165, v 166, v 167, v 168, v 169, v 170, v 171, v 172, v 173, v 174, v 175, v 176, v 177, v 178, v 179, v 180, v 181, v 182, v 183, v 184, v 185, v 186, v 187, v 188, v 189, v 190, v 191, v 192, v 193, v 194, v 195, v 196, v 197, v 198, v 199, v 200, v 201, v 202, v 203, v 204, v 205, v 206, v 207, v 208, v 209, v 210, v 211, v 212, v 213, v 214, v 215, v 216, v 217, v 218, v 219, v 220, v 221, v 222, v 223, v 224, v 225, v 226, v 227, v 228, v 229, v 230, v 231, v 232, v 233, v 234, v 235, v 236, v 237, v 238, v 239, v 240, v 241, v 242, v 243, v 244, v 245, v 246, v 247, v 248, v 249, v 250, v 251, v 252, v 253, v 254, v 255, v 256, v 257, v 258, v 259, v 260, v 261, v 262, v 263, v 264, v 265, v 266, v 267, v 268, v 269, v 270, v 271, v 272, v 273, v 274, v 275, v 276, v 277, v 278, v 279, v 280, v 281, v 282, v 283, v 284, v 285, v 286, v 287, v 288, v 289, v 290, v 291, v 292, v 293, v 294, v 295, v 296, v 297, v 298, v 299, v 300, v 301, v 302, v 303, v 304, v 305, v 306, v 307, v 308, v 309, v 310, v 311, v 312, v 313, v 314, v 315, v 316, v 317, v 318, v 319, v 320, v 321, v 322, v 323, v 324, v 325, v 326, v 327, v 328, v 329, v 330, v 331, v 332, v 333, v 334, v 335, v 336, v 337, v 338, v 339, v 340, v 341, v 342, v 343, v 344, v 345, v 346, v 347, v 348, v 349, v 350, v 351, v 352, v 353, v 354, v 355, v 356, v 357, v 358, v 359, v 360, v 361, v 362, v 363, v 364, v 365, v 366, v 367, v 368, v 369, v 370, v 371, v 372, v 373, v 374, v 375, v 376, v 377, v 378, v 379, v 380, v 381, v 382, v 383, v 384, v 385, v 386, v 387, v 388, v 389, v 390, v 391, v 392, v 393, v 394, v 395, v 396, v 397, v 398, v 399, v 400, v 401, v 402, v 403, v 404, v 405, v 406, v 407, v 408, v 409, v 410, v 411, v 412, v 413, v 414, v 415, v 416, v 417, v 418, v 419, v 420, v 421, v 422, v 423, v 424, v 425, v 426, v 427, v 428, v 429, v 430, v 431, v 432, v 433, v 434, v 435], []⟩

/-- The stacks as trimStack sees them. -/
theorem trim_close {E : EE} {w w1 : World} {s : ES} (h : EmG E w s) (p o : Mk) (j : Nat) (hh : s.hand = [p]) (hj : s.dst[j]? = some (.mk o)) (d3 : Value) (ho : Blk w1 o.m #[d3, .bool o.co, .bool o.cc, .int .i64 j, .int .i64 o.n] 268)
    (hm : Mods (fun b => b = o.m ∨ b = p.m ∨ b = E.D) w w1) (hD : Blk w1 E.D #[.slice s.da (cutAt s.dst j o p).length s.dc] 84) (hn6 : s.dst.length ≤ 1000000) :
    Calls Tryz.prog 160 #[.pointer (some ⟨E.S, 0, none⟩), .pointer (some ⟨E.D, 0, none⟩)] w1 fun e w' => e = .returned (.tuple #[]) ∧ Mods (fun k => k = E.S) w1 w' ∧ Blk w' E.S (stkCells (s.close j o p)) 281 := by
  have hR := h.r
  have hjl := (List.getElem?_eq_some_iff.1 hj).1
  have hclen := cut_len (p := p) hj
  have hcl : (cutAt s.dst j o p).length ≤ s.dst.length := by rw [hclen]; split <;> omega
  obtain ⟨_, i0, hpA⟩ := hR.hnd p (by rw [hh]; exact List.mem_singleton_self _)
  have hoA := (hR.dstMk j o hj).2.1
  have hSo : ¬ (E.S = o.m ∨ E.S = p.m ∨ E.S = E.D) := by
    rintro (e | e | e)
    · exact hR.S.ne_of_type hoA (by decide) e
    · exact hR.S.ne_of_type hpA (by decide) e
    · exact hR.S.ne_of_type h.D (by decide) e
  have hsl : ∀ (l : List Dt) (q : Nat), (stkOf q l).length ≤ l.length := by
    intro l q
    have : ∀ (l : List Dt) (j : Nat), (marksFrom j l).length ≤ l.length := by
      intro l
      induction l with
      | nil => intro j; simp [marksFrom]
      | cons x l ih => intro j; cases x <;> simp only [marksFrom, List.length_cons] <;> have := ih (j + 1) <;> omega
    exact Nat.le_trans (List.length_filter_le _ _) (this l 0)
  refine (trim_any E.S E.D (cutAt s.dst j o p).length s.dc s.da (fun q => if q < 3 then s.ka q else none) (fun q => if q < 3 then s.kc q else 0) (fun q => if q < 3 then (stkOf q s.dst).length else 0) (fun q => if q < 3 then (stkOf q (cutAt s.dst j o p)).length else 0) w1 (hR.S.keep hm hSo) hD (fun q _ => ?_) (fun q _ => ?_) (by omega) (fun q l _ hl => ?_)).mono ?_
  · split
    · exact (stk_cut_map (p := p) q hj).1
    · omega
  · split
    · have := hsl s.dst q; omega
    · omega
  · split at hl
    · rename_i hq3
      obtain ⟨⟨i, mk⟩, hx⟩ : ∃ x, (stkOf q s.dst)[l]? = some x := ⟨_, List.getElem?_eq_getElem hl⟩
      have hr := hR.stk q hq3
      rcases hr.2 with ⟨_, h0⟩ | ⟨g, cap, cur, hv, _, hg, hc, hmx, hs2, ht⟩
      · omega
      · have hmem := (marksFrom_get s.dst 0 i mk).1 (List.mem_filter.1 (List.mem_of_getElem? hx)).1
        have hdm := hR.dstMk i mk (by simpa using hmem.2)
        have hka : s.ka q = some ⟨g, 0, none⟩ ∧ s.kc q = cap := by
          unfold stkV at hv
          cases hsa : s.ka q with
          | none => rw [hsa] at hv; cases hv
          | some a => rw [hsa] at hv; cases hv; exact ⟨rfl, rfl⟩
        have hgB : Blk w g cur 266 := hg
        have hgB1 := hgB.keep hm (by
          rintro (e | e | e)
          · exact hgB.ne_of_type hoA (by decide) e
          · exact hgB.ne_of_type hpA (by decide) e
          · exact hgB.ne_of_type h.D (by decide) e)
        have hcell : cur[l]? = some (.pointer (some ⟨mk.m, 0, none⟩)) := by
          simp only [Nat.mul_one] at ht
          have h5 : (List.map ptrOf (stkOf q s.dst))[l]? = some (.pointer (some ⟨mk.m, 0, none⟩)) := by
            rw [List.getElem?_map, hx]
            rfl
          rw [← ht, List.getElem?_take_of_lt hl] at h5
          simpa using h5
        have hmk : ∃ cm, Blk w1 mk.m cm 268 ∧ cm[3]? = some (.int .i64 (i : Nat)) := by
          by_cases hmo : i = j
          · subst hmo
            have h6 := hmem.2
            rw [show i - 0 = i by omega, hj] at h6
            cases h6
            exact ⟨_, ho, rfl⟩
          · have hne_o : mk.m ≠ o.m := by
              intro e
              have hnd := hR.nodup
              unfold live at hnd
              have hnd1 := (List.nodup_append.1 hnd).1
              unfold liveD at hnd1
              have h7 : (i, mk) ∈ marksFrom 0 s.dst := (marksFrom_get s.dst 0 i mk).2 hmem
              have h8 : (j, o) ∈ marksFrom 0 s.dst := (marksFrom_get s.dst 0 j o).2 ⟨Nat.zero_le _, by simpa using hj⟩
              obtain ⟨a1, ha1, hb1⟩ := List.mem_iff_getElem.1 h7
              obtain ⟨a2, ha2, hb2⟩ := List.mem_iff_getElem.1 h8
              have h9 := (List.nodup_iff_pairwise_ne.1 hnd1)
              rw [List.pairwise_map] at h9
              rcases Nat.lt_trichotomy a1 a2 with hlt | heq | hgt
              · have := List.pairwise_iff_getElem.1 h9 a1 a2 ha1 ha2 hlt
                rw [hb1, hb2] at this
                exact this e
              · subst heq
                rw [hb1] at hb2
                cases hb2
                exact hmo rfl
              · have := List.pairwise_iff_getElem.1 h9 a2 a1 ha2 ha1 hgt
                rw [hb1, hb2] at this
                exact this e.symm
            have hne_p : mk.m ≠ p.m := by
              intro e
              have hnd := hR.nodup
              unfold live at hnd
              rw [hh] at hnd
              exact (List.nodup_append.1 hnd).2.2 _ (liveD_mem (by simpa using hmem.2)) p.m (by simp) e
            exact ⟨_, Blk.keep hdm.2.1 hm (by
              rintro (e | e | e)
              · exact hne_o e
              · exact hne_p e
              · exact Blk.ne_of_type hdm.2.1 h.D (by decide) e), rfl⟩
        obtain ⟨cm, hcm, hci⟩ := hmk
        refine ⟨g, mk.m, i, cur, cm, by rw [if_pos hq3]; exact hka.1, hgB1, hcell, hcm, hci, by rw [if_pos hq3, if_pos hq3, hka.2]; exact hc, by rw [if_pos hq3, hka.2]; unfold maxLen at hmx; omega, ?_⟩
        rw [if_pos hq3]
        exact stk_cut_places q hj l i mk hx
    · omega
  · rintro e w' ⟨rfl, hm', hS'⟩
    refine ⟨rfl, hm', ?_⟩
    exact hS'
end Go.Proofs.YtmmopoofheblbaaGreatDoor.T

/- emph: an opener and a closer become a node: the walks, region by region. -/
namespace Go.Proofs.YtmmopoofheblbaaGreatDoor.T
open Go Go.RowKit Go.Proofs

noncomputable def c39 : Code := snd c38
noncomputable def c40 : Code := snd c39
noncomputable def c43 : Code := snd c40
noncomputable def c44 : Code := snd c43

set_option maxRecDepth 100000 in
set_option maxHeartbeats 4000000 in
theorem r38 (q d0 sv : Value) (D S i kx jx pm om d : Nat) (del : Bool) (db : Nat) (tt2 : ByteArray) (w : World) (co : Array Value) (hO : Blk w om co 268) (ho0 : co[0]? = some (.string tt2)) (hd2 : d ≤ tt2.size) (htt2 : tt2.size ≤ 1000000)
    (Q : Exit → Act → World → Prop)
    (hnext : ∀ a' w', Fr38 q d0 sv D S i pm kx jx om d del db a' → Mods (fun b => b = om) w w' → Blk w' om (co.setIfInBounds 0 (.string (tt2.extract 0 (tt2.size - d)))) 268 → Q .normal a' w')
    (a : Act) (ha : Fr38 q d0 sv D S i pm kx jx om d del db a) : Code.wp Tryz.prog (fst c38) Q a w := by
  obtain ⟨v, rfl⟩ := ha
  conv => arg 2; whnf
  have HN := Lib.hid hnext
  have z0 : w.cell? ⟨om, 0, none⟩ = some (.string tt2) := (hO.cell 0).trans ho0
  have zf := hO.fr 0
  have zl := hO.lt
  have c1 : IntKind.i64.wrap ((tt2.size : Int) - d) = (tt2.size : Int) - d := IntWalk.i64_in _ (by omega)
  have c2 : (0 : Int) ≤ (tt2.size : Int) - d := by omega
  have c3 : (tt2.size : Int) - d ≤ tt2.size := by omega
  have c4 : ((tt2.size : Int) - d).toNat = tt2.size - d := by omega
  have c6 : (0 : Int) ≤ d := by omega
  have c7 : (d : Int) ≤ tt2.size := by omega
  clear hnext ho0
  go_still_tail 18, (by kernel_rfl)
  change wpList _ _ _ _ _ w.drew
  go_wp2_with fail
  refine HN.out _ _ ⟨(fun d => cond (Nat.ble 295 d && Nat.ble d 312) (cond (Nat.ble d 310) (List.getD [_, _, _, _, _, _, _, _, _, _, _, _, _, _, _, _] (d - 295) undef) (List.getD [_, _] (d - 311) undef)) (v d)), rfl⟩ ?_ ?_
  · exact (((Mods.refl (fun b => b = om) w).drew).setCell (p := ⟨om, 0, none⟩) (fun _ => rfl) _)
  · exact Blk.set_same (Blk.drew hO) 0 _

set_option maxRecDepth 100000 in
set_option maxHeartbeats 4000000 in
theorem r39 (q d0 sv : Value) (D S i kx jx pm om d : Nat) (del : Bool) (db : Nat) (tt : ByteArray) (w : World) (cp : Array Value) (hP : Blk w pm cp 268) (hp0 : cp[0]? = some (.string tt)) (hd1 : d ≤ tt.size) (htt : tt.size ≤ 1000000)
    (Q : Exit → Act → World → Prop)
    (hnext : ∀ a' w', Fr38 q d0 sv D S i pm kx jx om d del db a' → Mods (fun b => b = pm) w w' → Blk w' pm (cp.setIfInBounds 0 (.string (tt.extract d tt.size))) 268 → Q .normal a' w')
    (a : Act) (ha : Fr38 q d0 sv D S i pm kx jx om d del db a) : Code.wp Tryz.prog (fst c39) Q a w := by
  obtain ⟨v, rfl⟩ := ha
  conv => arg 2; whnf
  have HN := Lib.hid hnext
  have x0 : w.cell? ⟨pm, 0, none⟩ = some (.string tt) := (hP.cell 0).trans hp0
  have xf := hP.fr 0
  have xl := hP.lt
  have c5 : (d : Int) ≤ tt.size := by omega
  have c6 : (0 : Int) ≤ d := by omega
  clear hnext hp0
  go_wp2_with fail
  refine HN.out _ _ ⟨(fun d => cond (Nat.ble 313 d && Nat.ble d 323) (List.getD [_, _, _, _, _, _, _, _, _, _, _] (d - 313) undef) (v d)), rfl⟩ ?_ ?_
  · exact ((Mods.refl (fun b => b = pm) w).setCell (p := ⟨pm, 0, none⟩) (fun _ => rfl) _)
  · exact Blk.set_same hP 0 _

set_option maxRecDepth 100000 in
set_option maxHeartbeats 4000000 in
theorem r40_yes (q d0 sv : Value) (D S i kx jx pm om d : Nat) (del : Bool) (db g N dc j : Nat) (w : World) (co : Array Value) (hO : Blk w om co 268) (ho0 : co[0]? = some (.string ⟨#[]⟩)) (ho3 : co[3]? = some (.int .i64 j)) (hD : Blk w D #[.slice (some ⟨g, 0, none⟩) N dc] 84) (hj : j ≤ N) (hN : N ≤ dc) (hdc : dc ≤ maxLen)
    (Q : Exit → Act → World → Prop)
    (hnext : ∀ a' w', Fr38 q d0 sv D S i pm kx jx om d del db a' → Mods (fun b => b = D) w w' → Blk w' D #[.slice (some ⟨g, 0, none⟩) j dc] 84 → Q .normal a' w')
    (a : Act) (ha : Fr38 q d0 sv D S i pm kx jx om d del db a) : Code.wp Tryz.prog (fst c40) Q a w := by
  obtain ⟨v, rfl⟩ := ha
  conv => arg 2; whnf
  have HN := Lib.hid hnext
  have z0 : w.cell? ⟨om, 0, none⟩ = some (.string ⟨#[]⟩) := (hO.cell 0).trans ho0
  have z3 : w.cell? ⟨om, 3, none⟩ = some (.int .i64 j) := (hO.cell 3).trans ho3
  have k0 := hD.cell 0
  have kf := hD.fr 0
  have kl := hD.lt
  simp only [List.getElem?_toArray, List.getElem?_cons_zero] at k0
  unfold maxLen at hdc
  have c1 : (j : Int) ≤ dc := by omega
  have c2 : (0 : Int) ≤ j := by omega
  have c3 : (j : Int) ≤ N := by omega
  clear hnext ho0 ho3
  go_wp2_with fail
  go_still_tail 6, (by kernel_rfl)
  change wpList _ _ _ _ _ w.drew
  go_wp2_with fail
  refine HN.out _ _ ⟨(fun d => cond (Nat.ble 324 d && Nat.ble d 335) (List.getD [_, _, _, _, _, _, _, _, _, _, _, _] (d - 324) undef) (v d)), rfl⟩ ?_ ?_
  · exact (((Mods.refl (fun b => b = D) w).drew).setCell (p := ⟨D, 0, none⟩) (fun _ => rfl) _)
  · exact Blk.set_same (Blk.drew hD) 0 _

set_option maxRecDepth 100000 in
set_option maxHeartbeats 4000000 in
theorem r40_no (q d0 sv : Value) (D S i kx jx pm om d : Nat) (del : Bool) (db g N dc j : Nat) (tt2 : ByteArray) (w : World) (co : Array Value) (hO : Blk w om co 268) (ho0 : co[0]? = some (.string tt2)) (ht2 : 0 < tt2.size) (ho3 : co[3]? = some (.int .i64 j)) (hD : Blk w D #[.slice (some ⟨g, 0, none⟩) N dc] 84) (hj : j + 1 ≤ N) (hN : N ≤ dc) (hdc : dc ≤ maxLen)
    (Q : Exit → Act → World → Prop)
    (hnext : ∀ a' w', Fr38 q d0 sv D S i pm kx jx om d del db a' → Mods (fun b => b = D) w w' → Blk w' D #[.slice (some ⟨g, 0, none⟩) (j + 1) dc] 84 → Q .normal a' w')
    (a : Act) (ha : Fr38 q d0 sv D S i pm kx jx om d del db a) : Code.wp Tryz.prog (fst c40) Q a w := by
  obtain ⟨v, rfl⟩ := ha
  conv => arg 2; whnf
  have HN := Lib.hid hnext
  have z0 : w.cell? ⟨om, 0, none⟩ = some (.string tt2) := (hO.cell 0).trans ho0
  have z3 : w.cell? ⟨om, 3, none⟩ = some (.int .i64 j) := (hO.cell 3).trans ho3
  have k0 := hD.cell 0
  have kf := hD.fr 0
  have kl := hD.lt
  simp only [List.getElem?_toArray, List.getElem?_cons_zero] at k0
  unfold maxLen at hdc
  have c0 : IntKind.i64.wrap ((j : Int) + 1) = (j : Int) + 1 := IntWalk.i64_in _ (by omega)
  have c1 : (j : Int) + 1 ≤ dc := by omega
  have c2 : (0 : Int) ≤ (j : Int) + 1 := by omega
  have c3 : (j : Int) + 1 ≤ N := by omega
  have c4 : ((j : Int) + 1).toNat = j + 1 := by omega
  have hne := bs_ne ht2
  have hne2 : tt2.toList ≠ [] := by intro e; rw [e] at hne; cases hne
  clear hnext ho0 ho3
  go_wp2_with fail
  go_still_tail 7, (by kernel_rfl)
  change wpList _ _ _ _ _ w.drew
  go_wp2_with fail
  refine HN.out _ _ ⟨(fun d => cond (Nat.ble 324 d && Nat.ble d 342) (cond (Nat.ble d 339) (List.getD [_, _, _, _, _, _, _, _, _, _, _, _, _, _, _, _] (d - 324) undef) (List.getD [_, _, _] (d - 340) undef)) (v d)), rfl⟩ ?_ ?_
  · exact (((Mods.refl (fun b => b = D) w).drew).setCell (p := ⟨D, 0, none⟩) (fun _ => rfl) _)
  · exact Blk.set_same (Blk.drew hD) 0 _
end Go.Proofs.YtmmopoofheblbaaGreatDoor.T

/- emph: an opener and a closer become a node. -/
namespace Go.Proofs.YtmmopoofheblbaaGreatDoor.T
open Go Go.RowKit Go.Proofs

def Fr44 (q d0 sv : Value) (D S i m kx d : Nat) (del : Bool) (db : Nat) (a : Act) : Prop := ∃ v : Nat → Value, a = ⟨#[q, d0, sv, undef, .pointer (some ⟨D, 0, none⟩), undef, .slice none 0 0, .pointer (some ⟨S, 0, none⟩), .func (.func 159) #[] #[], .func (.func 160) #[] #[.pointer (some ⟨S, 0, none⟩), .pointer (some ⟨D, 0, none⟩)], .int .i64 i, v 11, v 12, .pointer (some ⟨m, 0, none⟩), v 14, .pointer (some ⟨S, kx, none⟩), v 16, v 17, .int .i64 d, .bool del, .pointer (some ⟨db, 0, none⟩), v 21, .func (.func 160) #[] #[.pointer (some ⟨S, 0, none⟩), .pointer (some ⟨D, 0, none⟩)], v 23, v 24, v 25, v 26, v 27, v 28, v 29, v 30, v 31, v 32, v 33, v 34, v 35, v 36, v 37, v 38, v 39, v 40, v 41, v 42, v 43, v 44, v 45, v 46, v 47, v 48, v 49, v 50, v 51, v 52, v 53, v 54, v 55, v 56, v 57, v 58, v 59, v 60, v 61, v 62, v 63, v 64, v 65, v 66, v 67, v 68, v 69, v 70, v 71, v 72, v 73, v 74, v 75, v 76, v 77, v 78, v 79, v 80, v 81, v 82, v 83, v 84, v 85, v 86, v 87, v 88, v 89, v 90, v 91, v 92, v 93, v 94, v 95, v 96, v 97, v 98, v 99, v 100, v 101, v 102, v 103, v 104, v 105, v 106, v 107, v 108, v 109, v 110, v 111, v 112, v 113, v 114, v 115, v 116, v 117, v 118, v 119, v 120, v 121, v 122, v 123, v 124, v 125, v 126, v 127, v 128, v 129, v 130, v 131, v 132, v 133, v 134, v 135, v 136, v 137, v 138, v 139, v 140, v 141, v 142, v 143, v 144, v 145, v 146, v 147, v 148, v 149, v 150, v 151, v 152, v 153, v 154, v 155, v 156, v 157, v 158, v 159, v 160, v 161, v 162, v 163, v 164, v 165, v 166, v 167, v 168, v 169, v 170, v 171, v 172, v 173, v 174, v 175, v 176, v 177, v 178, v 179, v 180, v 181, v 182, v 183, v 184, v 185, v 186, v 187, v 188, v 189, v 190, v 191, v 192, v 193, v 194, v 195, v 196, v 197, v 198, v 199, v 200, v 201, v 202, v 203, v 204, v 205, v 206, v 207, v 208, v 209, v 210, v 211, v 212, v 213, v 214, v 215, v 216, v 217, v 218, v 219, v 220, v 221, v 222, v 223, v 224, v 225, v 226, v 227, v 228, v 229, v 230, v 231, v 232, v 233, v 234, v 235, v 236, v 237, v 238, v 239, v 240, v 241, v 242, v 243, v 244, v 245, v 246, v 247, v 248, v 249, v 250, v 251, v 252, v 253, v 254, v 255, v 256, v 257, v 258, v 259, v 260, v 261, v 262, v 263, v 264, v 265, v 266, v 267, v 268, v 269, v 270, v 271, v 272, v 273, v 274, v 275, v 276, v 277, v 278, v 279, v 280, v 281, v 282, v 283, v 284, v 285, v 286, v 287, v 288, v 289, v 290, v 291, v 292, v 293, v 294, v 295, v 296, v 297, v 298, v 299, v 300, v 301, v 302, v 303, v 304, v 305, v 306, v 307, v 308, v 309, v 310, v 311, v 312, v 313, v 314, v 315, v 316, v 317, v 318, v 319, v 320, v 321, v 322, v 323, v 324, v 325, v 326, v 327, v 328, v 329, v 330, v 331, v 332, v 333, v 334, v 335, v 336, v 337, v 338, v 339, v 340, v 341, v 342, v 343, v 344, v 345, v 346, v 347, v 348, v 349, v 350, v 351, v 352, v 353, v 354, v 355, v 356, v 357, v 358, v 359, v 360, v 361, v 362, v 363, v 364, v 365, v 366, v 367, v 368, v 369, v 370, v 371, v 372, v 373, v 374, v 375, v 376, v 377, v 378, v 379, v 380, v 381, v 382, v 383, v 384, v 385, v 386, v 387, v 388, v 389, v 390, v 391, v 392, v 393, v 394, v 395, v 396, v 397, v 398, v 399, v 400, v 401, v 402, v 403, v 404, v 405, v 406, v 407, v 408, v 409, v 410, v 411, v 412, v 413, v 414, v 415, v 416, v 417, v 418, v 419, v 420, v 421, v 422, v 423, v 424, v 425, v 426, v 427, v 428, v 429, v 430, v 431, v 432, v 433, v 434, v 435], []⟩

set_option maxRecDepth 100000 in
set_option maxHeartbeats 4000000 in
theorem r43 (q d0 sv : Value) (D S i kx jx pm om d : Nat) (del : Bool) (db : Nat) (w : World) (R : World → Prop) (Q : Exit → Act → World → Prop)
    (hT : ∀ W, w = W → Calls Tryz.prog 160 #[.pointer (some ⟨S, 0, none⟩), .pointer (some ⟨D, 0, none⟩)] W fun e w' => e = .returned (.tuple #[]) ∧ R w')
    (hnext : ∀ a' w', Fr44 q d0 sv D S i pm kx d del db a' → R w' → Q .normal a' w')
    (a : Act) (ha : Fr38 q d0 sv D S i pm kx jx om d del db a) : Code.wp Tryz.prog (fst c43) Q a w := by
  obtain ⟨v, rfl⟩ := ha
  conv => arg 2; whnf
  have HN := Lib.hid hnext
  have HT := Lib.hid hT
  clear hnext hT
  go_wp2_with fail
  refine (HT.out _ rfl).mono ?_
  rintro e w' ⟨rfl, hR⟩
  have HR := Lib.hid hR
  clear hR
  go_wp2_with fail
  exact HN.out _ _ ⟨(fun d => cond (Nat.ble 16 d && Nat.ble d 17) (List.getD [_, _] (d - 16) undef) (cond (Nat.ble 343 d && Nat.ble d 344) (List.getD [_, _] (d - 343) undef) (v d))), rfl⟩ HR.out

set_option maxRecDepth 100000 in
set_option maxHeartbeats 4000000 in
theorem r44 (q d0 sv : Value) (D S i kx pm d db : Nat) (c : UInt8) (w : World) (inp : Bool) (sg so sc n si : Nat) (xs ys : List Value) (da : Option Addr) (dc : Nat) (hd : d = 1 ∨ d = 2) (hD : Blk w D #[.slice da ys.length dc] 84) (hL : Lst w inp sg so sc n xs si (.slice da ys.length dc) ys) (hyi : ys.length < si) (hin : si ≤ n) (hn : n ≤ 1000000)
    (Q : Exit → Act → World → Prop)
    (hnext : ∀ a' w1 w2 g dc', Fr3 q d0 sv D S i pm kx a' → Same w w1 → Lst w2 inp sg so sc n xs si (.slice (some ⟨g, 0, none⟩) (ys.length + 1) dc') (ys ++ [.iface (if c = 126 then 205 else if d = 2 then 203 else 200) (.pointer (some ⟨db, 0, none⟩))]) →
      Mods (fun k => (Value.slice da ys.length dc).ownBlock = some k) w1 w2 → ((Value.slice da ys.length dc).ownBlock = some g ∨ g = w1.heap.size) → Q (.exit 3) a' (w2.setCell ⟨D, 0, none⟩ (.slice (some ⟨g, 0, none⟩) (ys.length + 1) dc')))
    (a : Act) (ha : Fr44 q d0 sv D S i pm kx d (c == 126) db a) : Code.wp Tryz.prog c44 Q a w := by
  obtain ⟨v, rfl⟩ := ha
  conv => arg 2; whnf
  have HN := Lib.hid hnext
  have k0 : w.cell? ⟨D, 0, none⟩ = some (.slice da ys.length dc) := hD.cell 0
  have k1 := hD.fr 0
  have k2 := hD.lt
  have hS1 : ∀ o, Same w (w.alloc o) := fun o => (Mods.refl (fun _ => False) w).alloc o
  by_cases hc : c = 126
  · have hb : (c == 126) = true := by simp [hc]
    rw [hb]
    clear hnext
    go_wp2_with (at_builtin; refine wl_dst' rfl (.tmp 346) (.tmp 349) rfl (hL.same (hS1 _)) hyi hin hn 205 (.pointer (some ⟨db, 0, none⟩)) w.heap.size 1 rfl rfl ((Blk.newAt _ _ rfl).cell 0) ?_)
    intro g dc' w2 hL2 hm2 hloc
    have hD2 := (hD.alloc (.cells #[.iface 205 (.pointer (some ⟨db, 0, none⟩))] 157)).keep hm2 (fun e => own_ne hL.row hD (by decide) e)
    clear k0 k1 k2
    have k0 := hD2.cell 0
    have k1 := hD2.fr 0
    have k2 := hD2.lt
    go_wp2_with fail
    exact HN.out _ _ _ g dc' ⟨(fun d => cond (Nat.ble 16 d && Nat.ble d 20) (List.getD [_, _, _, _, _] (d - 16) undef) (cond (Nat.ble 343 d && Nat.ble d 362) (cond (Nat.ble d 358) (List.getD [_, _, _, _, _, _, _, _, _, _, _, _, _, _, _, _] (d - 343) undef) (List.getD [_, _, _, _] (d - 359) undef)) (v d))), rfl⟩ (hS1 _) (by rw [if_pos hc]; exact hL2) hm2 (hloc.imp (fun e => e) (fun e => e.trans (by simp)))
  · have hb : (c == 126) = false := by simp [hc]
    rw [hb]
    clear hnext
    rcases hd with rfl | rfl
    · go_wp2_with (at_builtin; refine wl_dst' rfl (.tmp 358) (.tmp 361) rfl (hL.same (hS1 _)) hyi hin hn 200 (.pointer (some ⟨db, 0, none⟩)) w.heap.size 1 rfl rfl ((Blk.newAt _ _ rfl).cell 0) ?_)
      intro g dc' w2 hL2 hm2 hloc
      have hD2 := (hD.alloc (.cells #[.iface 200 (.pointer (some ⟨db, 0, none⟩))] 157)).keep hm2 (fun e => own_ne hL.row hD (by decide) e)
      clear k0 k1 k2
      have k0 := hD2.cell 0
      have k1 := hD2.fr 0
      have k2 := hD2.lt
      go_wp2_with fail
      exact HN.out _ _ _ g dc' ⟨(fun d => cond (Nat.ble 16 d && Nat.ble d 20) (List.getD [_, _, _, _, _] (d - 16) undef) (cond (Nat.ble 343 d && Nat.ble d 362) (cond (Nat.ble d 358) (List.getD [_, _, _, _, _, _, _, _, _, _, _, _, _, _, _, _] (d - 343) undef) (List.getD [_, _, _, _] (d - 359) undef)) (v d))), rfl⟩ (hS1 _) (by rw [if_neg hc]; exact hL2) hm2 (hloc.imp (fun e => e) (fun e => e.trans (by simp)))
    · go_wp2_with (at_builtin; refine wl_dst' rfl (.tmp 353) (.tmp 356) rfl (hL.same (hS1 _)) hyi hin hn 203 (.pointer (some ⟨db, 0, none⟩)) w.heap.size 1 rfl rfl ((Blk.newAt _ _ rfl).cell 0) ?_)
      intro g dc' w2 hL2 hm2 hloc
      have hD2 := (hD.alloc (.cells #[.iface 203 (.pointer (some ⟨db, 0, none⟩))] 157)).keep hm2 (fun e => own_ne hL.row hD (by decide) e)
      clear k0 k1 k2
      have k0 := hD2.cell 0
      have k1 := hD2.fr 0
      have k2 := hD2.lt
      go_wp2_with fail
      exact HN.out _ _ _ g dc' ⟨(fun d => cond (Nat.ble 16 d && Nat.ble d 20) (List.getD [_, _, _, _, _] (d - 16) undef) (cond (Nat.ble 343 d && Nat.ble d 362) (cond (Nat.ble d 358) (List.getD [_, _, _, _, _, _, _, _, _, _, _, _, _, _, _, _] (d - 343) undef) (List.getD [_, _, _, _] (d - 359) undef)) (v d))), rfl⟩ (hS1 _) (by rw [if_neg hc]; exact hL2) hm2 (hloc.imp (fun e => e) (fun e => e.trans (by simp)))
end Go.Proofs.YtmmopoofheblbaaGreatDoor.T

/- emph: whether an opener and a closer of the sign 95 go together. -/
namespace Go.Proofs.YtmmopoofheblbaaGreatDoor.T
open Go Go.RowKit Go.Proofs
set_option maxRecDepth 100000 in
set_option maxHeartbeats 20000000 in
theorem r20_95 (q d0 sv : Value) (D S i kx j : Nat) (p o : Mk) (pi oi : Int) (w : World) (hp : MkAt w p pi) (ho : MkAt w o oi) (hpk : p.Ok) (hok : o.Ok) (hp0 : 0 < p.k) (hcc : p.cc = true) (hc : p.c = 95) (Q : Exit → Act → World → Prop)
    (hyes : sk1 p o = true → ∀ a' w', Fr5 q d0 sv D S i p.m kx j o.m a' → Same w w' → Q (.exit 5) a' w') (hno : sk1 p o = false → ∀ a' w', Fr5 q d0 sv D S i p.m kx j o.m a' → Same w w' → Q .normal a' w')
    (a : Act) (ha : Fr5 q d0 sv D S i p.m kx j o.m a) : Code.wp Tryz.prog c20 Q a w := by
  obtain ⟨v, rfl⟩ := ha
  obtain ⟨pm, pc, pk, pco, pcc, pn⟩ := p
  obtain ⟨om, oc, ok, oco, occ, on⟩ := o
  have hcc' : pcc = true := hcc
  subst hcc'
  conv => arg 2; whnf
  have x0 : w.cell? ⟨pm, 0, none⟩ = some (.string (run pc pk)) := Blk.cell hp 0
  have x1 : w.cell? ⟨pm, 1, none⟩ = some (.bool pco) := Blk.cell hp 1
  have x2 : w.cell? ⟨pm, 2, none⟩ = some (.bool true) := Blk.cell hp 2
  have x4 : w.cell? ⟨pm, 4, none⟩ = some (.int .i64 pn) := Blk.cell hp 4
  have z1 : w.cell? ⟨om, 1, none⟩ = some (.bool oco) := Blk.cell ho 1
  have z2 : w.cell? ⟨om, 2, none⟩ = some (.bool occ) := Blk.cell ho 2
  have z4 : w.cell? ⟨om, 4, none⟩ = some (.int .i64 on) := Blk.cell ho 4
  have hpn : pn ≤ 1000000 := hpk.2.2
  have hon : on ≤ 1000000 := hok.2.2
  have hsz : 0 < (run pc pk).size := by rw [run_size]; exact hp0
  have hpc : McOk pc := hpk.1
  have u0 : ∀ h : 0 < (run pc pk).size, (((run pc pk)[0]'h).toNat : Int) = pc.toNat := fun h => by rw [run_get]
  generalize hrun : run pc pk = tt at x0 hsz u0
  have HY := Lib.hid hyes
  have HN := Lib.hid hno
  have hc' : pc = 95 := hc
  clear hc hpc
  subst hc'
  clear hyes hno hp ho hpk hok hp0 hcc hrun
  have s1 : IntKind.i64.wrap ((pn : Int) + (on : Int)) = (pn : Int) + (on : Int) := IntWalk.i64_in _ (by omega)
  obtain ⟨a, ha⟩ : ∃ a : Nat, a = pn % 3 := ⟨_, rfl⟩
  obtain ⟨b, hb⟩ : ∃ b : Nat, b = on % 3 := ⟨_, rfl⟩
  obtain ⟨e, he⟩ : ∃ e : Nat, e = (pn + on) % 3 := ⟨_, rfl⟩
  have t1 : (pn : Int).tmod 3 = (a : Int) := by rw [Int.tmod_eq_emod_of_nonneg (by omega)]; omega
  have t2 : (on : Int).tmod 3 = (b : Int) := by rw [Int.tmod_eq_emod_of_nonneg (by omega)]; omega
  have t3 : ((pn : Int) + (on : Int)).tmod 3 = (e : Int) := by rw [Int.tmod_eq_emod_of_nonneg (by omega)]; omega
  have HA := Lib.hid ha
  have HB := Lib.hid hb
  have HE := Lib.hid he
  clear ha hb he
  have u1 : ∀ h : 0 < tt.size, ((tt[0]'h).toNat : Int) = 95 := u0
  clear u0
  cases pco
  · cases oco
    · skip
      go_wp2_with fail
      go_quiet (fail)
      go_wp2_with fail
      refine HN.out ?_ _ _ ⟨(fun d => cond (Nat.ble 96 d && Nat.ble d 164) (cond (Nat.ble d 127) (cond (Nat.ble d 111) (List.getD [_, _, _, _, _, _, _, _, _, _, _, _, _, _, _, _] (d - 96) undef) (List.getD [_, _, _, _, _, _, _, _, _, _, _, _, _, _, _, _] (d - 112) undef)) (cond (Nat.ble d 143) (List.getD [_, _, _, _, _, _, _, _, _, _, _, _, _, _, _, _] (d - 128) undef) (cond (Nat.ble d 159) (List.getD [_, _, _, _, _, _, _, _, _, _, _, _, _, _, _, _] (d - 144) undef) (List.getD [_, _, _, _, _] (d - 160) undef)))) (v d)), rfl⟩ ((Mods.refl _ w).drewN _)
      simp [sk1]
    · cases occ
      · skip
        go_wp2_with fail
        go_quiet (fail)
        go_wp2_with fail
        refine HN.out ?_ _ _ ⟨(fun d => cond (Nat.ble 96 d && Nat.ble d 164) (cond (Nat.ble d 127) (cond (Nat.ble d 111) (List.getD [_, _, _, _, _, _, _, _, _, _, _, _, _, _, _, _] (d - 96) undef) (List.getD [_, _, _, _, _, _, _, _, _, _, _, _, _, _, _, _] (d - 112) undef)) (cond (Nat.ble d 143) (List.getD [_, _, _, _, _, _, _, _, _, _, _, _, _, _, _, _] (d - 128) undef) (cond (Nat.ble d 159) (List.getD [_, _, _, _, _, _, _, _, _, _, _, _, _, _, _, _] (d - 144) undef) (List.getD [_, _, _, _, _] (d - 160) undef)))) (v d)), rfl⟩ ((Mods.refl _ w).drewN _)
        simp [sk1]
      · skip
        by_cases e0 : e = 0
        · subst e0
          by_cases a0 : a = 0
          · have b0 : b = 0 := by have := HA.out; have := HB.out; have := HE.out; omega
            subst a0 b0
            go_wp2_with fail
            go_quiet (fail)
            go_wp2_with fail
            refine HN.out ?_ _ _ ⟨(fun d => cond (Nat.ble 96 d && Nat.ble d 164) (cond (Nat.ble d 127) (cond (Nat.ble d 111) (List.getD [_, _, _, _, _, _, _, _, _, _, _, _, _, _, _, _] (d - 96) undef) (List.getD [_, _, _, _, _, _, _, _, _, _, _, _, _, _, _, _] (d - 112) undef)) (cond (Nat.ble d 143) (List.getD [_, _, _, _, _, _, _, _, _, _, _, _, _, _, _, _] (d - 128) undef) (cond (Nat.ble d 159) (List.getD [_, _, _, _, _, _, _, _, _, _, _, _, _, _, _, _] (d - 144) undef) (List.getD [_, _, _, _, _] (d - 160) undef)))) (v d)), rfl⟩ ((Mods.refl _ w).drewN _)
            have h1 : pn % 3 = 0 := HA.out.symm
            have h2 : on % 3 = 0 := HB.out.symm
            simp [sk1, h1, h2]
          · have n1 : ((a : Int) == 0) = false := by simpa using a0
            have n2 : ((a : Int) != 0) = true := by simpa using a0
            go_wp2_with fail
            go_quiet (fail)
            go_wp2_with fail
            refine HY.out ?_ _ _ ⟨(fun d => cond (Nat.ble 96 d && Nat.ble d 164) (cond (Nat.ble d 127) (cond (Nat.ble d 111) (List.getD [_, _, _, _, _, _, _, _, _, _, _, _, _, _, _, _] (d - 96) undef) (List.getD [_, _, _, _, _, _, _, _, _, _, _, _, _, _, _, _] (d - 112) undef)) (cond (Nat.ble d 143) (List.getD [_, _, _, _, _, _, _, _, _, _, _, _, _, _, _, _] (d - 128) undef) (cond (Nat.ble d 159) (List.getD [_, _, _, _, _, _, _, _, _, _, _, _, _, _, _, _] (d - 144) undef) (List.getD [_, _, _, _, _] (d - 160) undef)))) (v d)), rfl⟩ ((Mods.refl _ w).drewN _)
            have h1 : (pn + on) % 3 = 0 := HE.out.symm
            have h2 : pn % 3 ≠ 0 := by rw [← HA.out]; exact a0
            simp [sk1, h1, h2]
        · have n1 : ((e : Int) == 0) = false := by simpa using e0
          go_wp2_with fail
          go_quiet (fail)
          go_wp2_with fail
          refine HN.out ?_ _ _ ⟨(fun d => cond (Nat.ble 96 d && Nat.ble d 164) (cond (Nat.ble d 127) (cond (Nat.ble d 111) (List.getD [_, _, _, _, _, _, _, _, _, _, _, _, _, _, _, _] (d - 96) undef) (List.getD [_, _, _, _, _, _, _, _, _, _, _, _, _, _, _, _] (d - 112) undef)) (cond (Nat.ble d 143) (List.getD [_, _, _, _, _, _, _, _, _, _, _, _, _, _, _, _] (d - 128) undef) (cond (Nat.ble d 159) (List.getD [_, _, _, _, _, _, _, _, _, _, _, _, _, _, _, _] (d - 144) undef) (List.getD [_, _, _, _, _] (d - 160) undef)))) (v d)), rfl⟩ ((Mods.refl _ w).drewN _)
          have h1 : (pn + on) % 3 ≠ 0 := by rw [← HE.out]; exact e0
          simp [sk1, h1]
  · skip
    by_cases e0 : e = 0
    · subst e0
      by_cases a0 : a = 0
      · have b0 : b = 0 := by have := HA.out; have := HB.out; have := HE.out; omega
        subst a0 b0
        go_wp2_with fail
        go_quiet (fail)
        go_wp2_with fail
        refine HN.out ?_ _ _ ⟨(fun d => cond (Nat.ble 96 d && Nat.ble d 164) (cond (Nat.ble d 127) (cond (Nat.ble d 111) (List.getD [_, _, _, _, _, _, _, _, _, _, _, _, _, _, _, _] (d - 96) undef) (List.getD [_, _, _, _, _, _, _, _, _, _, _, _, _, _, _, _] (d - 112) undef)) (cond (Nat.ble d 143) (List.getD [_, _, _, _, _, _, _, _, _, _, _, _, _, _, _, _] (d - 128) undef) (cond (Nat.ble d 159) (List.getD [_, _, _, _, _, _, _, _, _, _, _, _, _, _, _, _] (d - 144) undef) (List.getD [_, _, _, _, _] (d - 160) undef)))) (v d)), rfl⟩ ((Mods.refl _ w).drewN _)
        have h1 : pn % 3 = 0 := HA.out.symm
        have h2 : on % 3 = 0 := HB.out.symm
        simp [sk1, h1, h2]
      · have n1 : ((a : Int) == 0) = false := by simpa using a0
        have n2 : ((a : Int) != 0) = true := by simpa using a0
        go_wp2_with fail
        go_quiet (fail)
        go_wp2_with fail
        refine HY.out ?_ _ _ ⟨(fun d => cond (Nat.ble 96 d && Nat.ble d 164) (cond (Nat.ble d 127) (cond (Nat.ble d 111) (List.getD [_, _, _, _, _, _, _, _, _, _, _, _, _, _, _, _] (d - 96) undef) (List.getD [_, _, _, _, _, _, _, _, _, _, _, _, _, _, _, _] (d - 112) undef)) (cond (Nat.ble d 143) (List.getD [_, _, _, _, _, _, _, _, _, _, _, _, _, _, _, _] (d - 128) undef) (cond (Nat.ble d 159) (List.getD [_, _, _, _, _, _, _, _, _, _, _, _, _, _, _, _] (d - 144) undef) (List.getD [_, _, _, _, _] (d - 160) undef)))) (v d)), rfl⟩ ((Mods.refl _ w).drewN _)
        have h1 : (pn + on) % 3 = 0 := HE.out.symm
        have h2 : pn % 3 ≠ 0 := by rw [← HA.out]; exact a0
        simp [sk1, h1, h2]
    · have n1 : ((e : Int) == 0) = false := by simpa using e0
      go_wp2_with fail
      go_quiet (fail)
      go_wp2_with fail
      refine HN.out ?_ _ _ ⟨(fun d => cond (Nat.ble 96 d && Nat.ble d 164) (cond (Nat.ble d 127) (cond (Nat.ble d 111) (List.getD [_, _, _, _, _, _, _, _, _, _, _, _, _, _, _, _] (d - 96) undef) (List.getD [_, _, _, _, _, _, _, _, _, _, _, _, _, _, _, _] (d - 112) undef)) (cond (Nat.ble d 143) (List.getD [_, _, _, _, _, _, _, _, _, _, _, _, _, _, _, _] (d - 128) undef) (cond (Nat.ble d 159) (List.getD [_, _, _, _, _, _, _, _, _, _, _, _, _, _, _, _] (d - 144) undef) (List.getD [_, _, _, _, _] (d - 160) undef)))) (v d)), rfl⟩ ((Mods.refl _ w).drewN _)
      have h1 : (pn + on) % 3 ≠ 0 := by rw [← HE.out]; exact e0
      simp [sk1, h1]
end Go.Proofs.YtmmopoofheblbaaGreatDoor.T

/- emph: whether an opener and a closer of the sign 42 go together. -/
namespace Go.Proofs.YtmmopoofheblbaaGreatDoor.T
open Go Go.RowKit Go.Proofs
set_option maxRecDepth 100000 in
set_option maxHeartbeats 20000000 in
theorem r20_42 (q d0 sv : Value) (D S i kx j : Nat) (p o : Mk) (pi oi : Int) (w : World) (hp : MkAt w p pi) (ho : MkAt w o oi) (hpk : p.Ok) (hok : o.Ok) (hp0 : 0 < p.k) (hcc : p.cc = true) (hc : p.c = 42) (Q : Exit → Act → World → Prop)
    (hyes : sk1 p o = true → ∀ a' w', Fr5 q d0 sv D S i p.m kx j o.m a' → Same w w' → Q (.exit 5) a' w') (hno : sk1 p o = false → ∀ a' w', Fr5 q d0 sv D S i p.m kx j o.m a' → Same w w' → Q .normal a' w')
    (a : Act) (ha : Fr5 q d0 sv D S i p.m kx j o.m a) : Code.wp Tryz.prog c20 Q a w := by
  obtain ⟨v, rfl⟩ := ha
  obtain ⟨pm, pc, pk, pco, pcc, pn⟩ := p
  obtain ⟨om, oc, ok, oco, occ, on⟩ := o
  have hcc' : pcc = true := hcc
  subst hcc'
  conv => arg 2; whnf
  have x0 : w.cell? ⟨pm, 0, none⟩ = some (.string (run pc pk)) := Blk.cell hp 0
  have x1 : w.cell? ⟨pm, 1, none⟩ = some (.bool pco) := Blk.cell hp 1
  have x2 : w.cell? ⟨pm, 2, none⟩ = some (.bool true) := Blk.cell hp 2
  have x4 : w.cell? ⟨pm, 4, none⟩ = some (.int .i64 pn) := Blk.cell hp 4
  have z1 : w.cell? ⟨om, 1, none⟩ = some (.bool oco) := Blk.cell ho 1
  have z2 : w.cell? ⟨om, 2, none⟩ = some (.bool occ) := Blk.cell ho 2
  have z4 : w.cell? ⟨om, 4, none⟩ = some (.int .i64 on) := Blk.cell ho 4
  have hpn : pn ≤ 1000000 := hpk.2.2
  have hon : on ≤ 1000000 := hok.2.2
  have hsz : 0 < (run pc pk).size := by rw [run_size]; exact hp0
  have hpc : McOk pc := hpk.1
  have u0 : ∀ h : 0 < (run pc pk).size, (((run pc pk)[0]'h).toNat : Int) = pc.toNat := fun h => by rw [run_get]
  generalize hrun : run pc pk = tt at x0 hsz u0
  have HY := Lib.hid hyes
  have HN := Lib.hid hno
  have hc' : pc = 42 := hc
  clear hc hpc
  subst hc'
  clear hyes hno hp ho hpk hok hp0 hcc hrun
  have s1 : IntKind.i64.wrap ((pn : Int) + (on : Int)) = (pn : Int) + (on : Int) := IntWalk.i64_in _ (by omega)
  obtain ⟨a, ha⟩ : ∃ a : Nat, a = pn % 3 := ⟨_, rfl⟩
  obtain ⟨b, hb⟩ : ∃ b : Nat, b = on % 3 := ⟨_, rfl⟩
  obtain ⟨e, he⟩ : ∃ e : Nat, e = (pn + on) % 3 := ⟨_, rfl⟩
  have t1 : (pn : Int).tmod 3 = (a : Int) := by rw [Int.tmod_eq_emod_of_nonneg (by omega)]; omega
  have t2 : (on : Int).tmod 3 = (b : Int) := by rw [Int.tmod_eq_emod_of_nonneg (by omega)]; omega
  have t3 : ((pn : Int) + (on : Int)).tmod 3 = (e : Int) := by rw [Int.tmod_eq_emod_of_nonneg (by omega)]; omega
  have HA := Lib.hid ha
  have HB := Lib.hid hb
  have HE := Lib.hid he
  clear ha hb he
  have u1 : ∀ h : 0 < tt.size, ((tt[0]'h).toNat : Int) = 42 := u0
  clear u0
  cases pco
  · cases oco
    · skip
      go_wp2_with fail
      go_quiet (fail)
      go_wp2_with fail
      refine HN.out ?_ _ _ ⟨(fun d => cond (Nat.ble 96 d && Nat.ble d 164) (cond (Nat.ble d 127) (cond (Nat.ble d 111) (List.getD [_, _, _, _, _, _, _, _, _, _, _, _, _, _, _, _] (d - 96) undef) (List.getD [_, _, _, _, _, _, _, _, _, _, _, _, _, _, _, _] (d - 112) undef)) (cond (Nat.ble d 143) (List.getD [_, _, _, _, _, _, _, _, _, _, _, _, _, _, _, _] (d - 128) undef) (cond (Nat.ble d 159) (List.getD [_, _, _, _, _, _, _, _, _, _, _, _, _, _, _, _] (d - 144) undef) (List.getD [_, _, _, _, _] (d - 160) undef)))) (v d)), rfl⟩ ((Mods.refl _ w).drewN _)
      simp [sk1]
    · cases occ
      · skip
        go_wp2_with fail
        go_quiet (fail)
        go_wp2_with fail
        refine HN.out ?_ _ _ ⟨(fun d => cond (Nat.ble 96 d && Nat.ble d 164) (cond (Nat.ble d 127) (cond (Nat.ble d 111) (List.getD [_, _, _, _, _, _, _, _, _, _, _, _, _, _, _, _] (d - 96) undef) (List.getD [_, _, _, _, _, _, _, _, _, _, _, _, _, _, _, _] (d - 112) undef)) (cond (Nat.ble d 143) (List.getD [_, _, _, _, _, _, _, _, _, _, _, _, _, _, _, _] (d - 128) undef) (cond (Nat.ble d 159) (List.getD [_, _, _, _, _, _, _, _, _, _, _, _, _, _, _, _] (d - 144) undef) (List.getD [_, _, _, _, _] (d - 160) undef)))) (v d)), rfl⟩ ((Mods.refl _ w).drewN _)
        simp [sk1]
      · skip
        by_cases e0 : e = 0
        · subst e0
          by_cases a0 : a = 0
          · have b0 : b = 0 := by have := HA.out; have := HB.out; have := HE.out; omega
            subst a0 b0
            go_wp2_with fail
            go_quiet (fail)
            go_wp2_with fail
            refine HN.out ?_ _ _ ⟨(fun d => cond (Nat.ble 96 d && Nat.ble d 164) (cond (Nat.ble d 127) (cond (Nat.ble d 111) (List.getD [_, _, _, _, _, _, _, _, _, _, _, _, _, _, _, _] (d - 96) undef) (List.getD [_, _, _, _, _, _, _, _, _, _, _, _, _, _, _, _] (d - 112) undef)) (cond (Nat.ble d 143) (List.getD [_, _, _, _, _, _, _, _, _, _, _, _, _, _, _, _] (d - 128) undef) (cond (Nat.ble d 159) (List.getD [_, _, _, _, _, _, _, _, _, _, _, _, _, _, _, _] (d - 144) undef) (List.getD [_, _, _, _, _] (d - 160) undef)))) (v d)), rfl⟩ ((Mods.refl _ w).drewN _)
            have h1 : pn % 3 = 0 := HA.out.symm
            have h2 : on % 3 = 0 := HB.out.symm
            simp [sk1, h1, h2]
          · have n1 : ((a : Int) == 0) = false := by simpa using a0
            have n2 : ((a : Int) != 0) = true := by simpa using a0
            go_wp2_with fail
            go_quiet (fail)
            go_wp2_with fail
            refine HY.out ?_ _ _ ⟨(fun d => cond (Nat.ble 96 d && Nat.ble d 164) (cond (Nat.ble d 127) (cond (Nat.ble d 111) (List.getD [_, _, _, _, _, _, _, _, _, _, _, _, _, _, _, _] (d - 96) undef) (List.getD [_, _, _, _, _, _, _, _, _, _, _, _, _, _, _, _] (d - 112) undef)) (cond (Nat.ble d 143) (List.getD [_, _, _, _, _, _, _, _, _, _, _, _, _, _, _, _] (d - 128) undef) (cond (Nat.ble d 159) (List.getD [_, _, _, _, _, _, _, _, _, _, _, _, _, _, _, _] (d - 144) undef) (List.getD [_, _, _, _, _] (d - 160) undef)))) (v d)), rfl⟩ ((Mods.refl _ w).drewN _)
            have h1 : (pn + on) % 3 = 0 := HE.out.symm
            have h2 : pn % 3 ≠ 0 := by rw [← HA.out]; exact a0
            simp [sk1, h1, h2]
        · have n1 : ((e : Int) == 0) = false := by simpa using e0
          go_wp2_with fail
          go_quiet (fail)
          go_wp2_with fail
          refine HN.out ?_ _ _ ⟨(fun d => cond (Nat.ble 96 d && Nat.ble d 164) (cond (Nat.ble d 127) (cond (Nat.ble d 111) (List.getD [_, _, _, _, _, _, _, _, _, _, _, _, _, _, _, _] (d - 96) undef) (List.getD [_, _, _, _, _, _, _, _, _, _, _, _, _, _, _, _] (d - 112) undef)) (cond (Nat.ble d 143) (List.getD [_, _, _, _, _, _, _, _, _, _, _, _, _, _, _, _] (d - 128) undef) (cond (Nat.ble d 159) (List.getD [_, _, _, _, _, _, _, _, _, _, _, _, _, _, _, _] (d - 144) undef) (List.getD [_, _, _, _, _] (d - 160) undef)))) (v d)), rfl⟩ ((Mods.refl _ w).drewN _)
          have h1 : (pn + on) % 3 ≠ 0 := by rw [← HE.out]; exact e0
          simp [sk1, h1]
  · skip
    by_cases e0 : e = 0
    · subst e0
      by_cases a0 : a = 0
      · have b0 : b = 0 := by have := HA.out; have := HB.out; have := HE.out; omega
        subst a0 b0
        go_wp2_with fail
        go_quiet (fail)
        go_wp2_with fail
        refine HN.out ?_ _ _ ⟨(fun d => cond (Nat.ble 96 d && Nat.ble d 164) (cond (Nat.ble d 127) (cond (Nat.ble d 111) (List.getD [_, _, _, _, _, _, _, _, _, _, _, _, _, _, _, _] (d - 96) undef) (List.getD [_, _, _, _, _, _, _, _, _, _, _, _, _, _, _, _] (d - 112) undef)) (cond (Nat.ble d 143) (List.getD [_, _, _, _, _, _, _, _, _, _, _, _, _, _, _, _] (d - 128) undef) (cond (Nat.ble d 159) (List.getD [_, _, _, _, _, _, _, _, _, _, _, _, _, _, _, _] (d - 144) undef) (List.getD [_, _, _, _, _] (d - 160) undef)))) (v d)), rfl⟩ ((Mods.refl _ w).drewN _)
        have h1 : pn % 3 = 0 := HA.out.symm
        have h2 : on % 3 = 0 := HB.out.symm
        simp [sk1, h1, h2]
      · have n1 : ((a : Int) == 0) = false := by simpa using a0
        have n2 : ((a : Int) != 0) = true := by simpa using a0
        go_wp2_with fail
        go_quiet (fail)
        go_wp2_with fail
        refine HY.out ?_ _ _ ⟨(fun d => cond (Nat.ble 96 d && Nat.ble d 164) (cond (Nat.ble d 127) (cond (Nat.ble d 111) (List.getD [_, _, _, _, _, _, _, _, _, _, _, _, _, _, _, _] (d - 96) undef) (List.getD [_, _, _, _, _, _, _, _, _, _, _, _, _, _, _, _] (d - 112) undef)) (cond (Nat.ble d 143) (List.getD [_, _, _, _, _, _, _, _, _, _, _, _, _, _, _, _] (d - 128) undef) (cond (Nat.ble d 159) (List.getD [_, _, _, _, _, _, _, _, _, _, _, _, _, _, _, _] (d - 144) undef) (List.getD [_, _, _, _, _] (d - 160) undef)))) (v d)), rfl⟩ ((Mods.refl _ w).drewN _)
        have h1 : (pn + on) % 3 = 0 := HE.out.symm
        have h2 : pn % 3 ≠ 0 := by rw [← HA.out]; exact a0
        simp [sk1, h1, h2]
    · have n1 : ((e : Int) == 0) = false := by simpa using e0
      go_wp2_with fail
      go_quiet (fail)
      go_wp2_with fail
      refine HN.out ?_ _ _ ⟨(fun d => cond (Nat.ble 96 d && Nat.ble d 164) (cond (Nat.ble d 127) (cond (Nat.ble d 111) (List.getD [_, _, _, _, _, _, _, _, _, _, _, _, _, _, _, _] (d - 96) undef) (List.getD [_, _, _, _, _, _, _, _, _, _, _, _, _, _, _, _] (d - 112) undef)) (cond (Nat.ble d 143) (List.getD [_, _, _, _, _, _, _, _, _, _, _, _, _, _, _, _] (d - 128) undef) (cond (Nat.ble d 159) (List.getD [_, _, _, _, _, _, _, _, _, _, _, _, _, _, _, _] (d - 144) undef) (List.getD [_, _, _, _, _] (d - 160) undef)))) (v d)), rfl⟩ ((Mods.refl _ w).drewN _)
      have h1 : (pn + on) % 3 ≠ 0 := by rw [← HE.out]; exact e0
      simp [sk1, h1]
end Go.Proofs.YtmmopoofheblbaaGreatDoor.T
