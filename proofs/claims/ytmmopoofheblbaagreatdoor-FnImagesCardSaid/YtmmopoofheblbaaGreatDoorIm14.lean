/- Some texts of one proof, put into one file: InD0, InD, InD2, InC2, Em19, InD3. -/
import Derived.Test.YtmmopoofheblbaaGreatDoorIm13
/- inline on any text: what a closed bracket does to the list. -/
namespace Go.Proofs.YtmmopoofheblbaaGreatDoor.T
open Go Go.RowKit Go.Proofs

def linkI (img : Bool) (url title : ByteArray) (tc : Nat) (cr : Bool) (kids : List Inl) : Inl :=
  .node (if img then 210 else 112) [] kids [.string url, .string title, .int .u8 (tc : Int), .bool cr]

theorem liveS_take_drop (l : List Sr) (i : Nat) : liveS l = liveS (l.take i) ++ liveS (l.drop i) := by rw [← liveS_append, List.take_append_drop]
theorem liveS_split {l : List Sr} {i : Nat} {t : ByteArray} {k : Int} (h : l[i]? = some (.opn t k)) : liveS l = liveS (l.take i) ++ liveS (l.drop (i + 1)) := by
  conv => lhs; rw [split_at h]
  rw [liveS_append]
  rfl

/-- What stands behind the bracket, as a list for emph. -/
theorem SrcAt.behind {A : Nat → Prop} {w : World} {l : List Sr} {xs : List Value} (h : SrcAt A w l xs) (i : Nat) (t : ByteArray) (k : Int) (hi : l[i]? = some (.opn t k)) : SrcAt (fun b => A b ∨ b ∈ liveS (l.take i)) w (l.drop (i + 1)) (xs.drop (i + 1)) := by
  have hnd := h.nodup
  rw [liveS_split hi] at hnd
  have hnd1 := List.nodup_append.1 hnd
  refine ⟨by simp [h.len], fun j t x h1 h2 => ?_, hnd1.2.1, fun m hm ha => ?_, ?_, fun j a b h1 h2 => ?_⟩
  · rw [List.getElem?_drop] at h1 h2
    refine (h.at_ _ t x h1 h2).keep (Mods.refl (fun _ => False) w) (fun _ _ _ _ _ e => absurd e (fun e => e)) ?_ (fun _ _ e => e)
    rintro b ((hb | hb) | hb)
    · exact Or.inl (Or.inl hb)
    · exact Or.inl (Or.inr (by rw [liveS_split hi]; exact List.mem_append_left _ hb))
    · exact Or.inl (Or.inr (by rw [liveS_split hi]; exact List.mem_append_right _ hb))
  · rcases ha with ha | ha
    · exact h.out m (by rw [liveS_split hi]; exact List.mem_append_right _ hm) ha
    · exact hnd1.2.2 m ha m hm rfl
  · rintro b (hb | hb)
    · exact h.a0 b hb
    · exact (h.live_lt b (by rw [liveS_split hi]; exact List.mem_append_left _ hb)).1
  · rw [List.getElem?_drop] at h1 h2
    exact h.adj (i + 1 + j) a b h1 (by rw [show i + 1 + j + 1 = i + 1 + (j + 1) by omega]; exact h2)

theorem ISt.close {B : Nat → Prop} {w0 w w' : World} {bp : Nat} {p q : PSt} {s : ByteArray} {e en lg lc n : Nat} {xs : List Value} {l : List Sr} (h : ISt B w0 w bp p s e (.slice (some ⟨lg, 0, none⟩) n lc) xs l) (oi : Nat) (t : ByteArray) (k : Int) (hi : l[oi]? = some (.opn t k))
    (lb : Nat) (hlb : B lb) (hlb0 : w0.heap.size ≤ lb) (x : Inl) (ty : Nat) (hty : x.ty = ty) (hty1 : ty ≠ 228) (hty2 : ty ≠ 266)
    (hm : Mods (fun b => b ∈ liveS (l.drop (oi + 1)) ∨ b = lb ∨ b = lg ∨ b = bp) w w') (hp : PsAt w' bp { q with s := s, list := .slice (some ⟨lg, 0, none⟩) (oi + 1) lc, emitted := ((en : Nat) : Int) })
    (hr : w'.ownsRow 0 157 1 (.slice (some ⟨lg, 0, none⟩) (oi + 1) lc) (oi + 1) (xs.take oi ++ [.iface ty (.pointer (some ⟨lb, 0, none⟩))]))
    (hx : InlAt (fun b => lg = b ∨ b ∈ liveS (l.take oi)) w' x (.iface ty (.pointer (some ⟨lb, 0, none⟩)))) :
    ISt NoB w0 w' bp q s en (.slice (some ⟨lg, 0, none⟩) (oi + 1) lc) (xs.take oi ++ [.iface ty (.pointer (some ⟨lb, 0, none⟩))]) (l.take oi ++ [.fin x]) := by
  have hlen := h.src.len
  have hol := (List.getElem?_eq_some_iff.1 hi).1
  have hnd := h.src.nodup
  rw [liveS_split hi] at hnd
  have hnd1 := List.nodup_append.1 hnd
  have htl : (l.take oi).length = oi := by simp; omega
  have hxl : (xs.take oi).length = oi := by simp; omega
  have hlive : liveS (l.take oi ++ [.fin x]) = liveS (l.take oi) := by rw [liveS_append]; simp [liveS]
  have e1 : (xs.take oi ++ [Value.iface ty (.pointer (some ⟨lb, 0, none⟩))]).length = oi + 1 := by simp; omega
  refine ⟨h.mods.then hm (fun b hb hh => ?_), hp, by rw [e1]; exact hr, ?_, fun g hg => ?_, fun m hmm => ?_, fun x => x⟩
  · rcases hh with hh | hh | hh | hh
    · have := h.new b (by rw [liveS_split hi]; exact List.mem_append_right _ hh)
      omega
    · subst hh
      omega
    · subst hh
      have := (h.fresh b rfl).1
      omega
    · exact hh
  · refine ⟨by simp [hlen], fun j d u h1 h2 => ?_, by rw [hlive]; exact hnd1.1, fun m hmm ha => ?_, fun b hb => ?_, fun j a b h1 h2 => ?_⟩
    · rcases getElem?_snoc h1 with h3 | ⟨rfl, rfl⟩
      · rcases getElem?_snoc h2 with h4 | ⟨rfl, _⟩
        · have hj : j < oi := by have := (List.getElem?_eq_some_iff.1 h3).1; omega
          rw [List.getElem?_take_of_lt hj] at h3 h4
          refine (h.src.at_ j d u h3 h4).keep hm (fun b cs T hb hT hx => ?_) ?_ ?_
          · rcases hx with hx | hx | hx | hx
            · exact Or.inr (by rw [liveS_split hi]; exact List.mem_append_right _ hx)
            · subst hx; exact Or.inl (Or.inr hlb)
            · subst hx; exact Or.inl (Or.inl rfl)
            · have := ps_ty h.at_ hb hx
              rw [this] at hT
              exact absurd hT (by decide)
          · rintro b ((hb | hb) | hb)
            · cases hb
              exact Or.inl (Or.inl (Or.inl rfl))
            · exact absurd hb (fun x => x)
            · rw [hlive] at hb
              exact Or.inl (Or.inr (by rw [liveS_split hi]; exact List.mem_append_left _ hb))
          · intro q hq hx
            subst hq
            have hm1 : q.m ∈ liveS (l.take oi) := liveS_mem (j := j) (by rw [List.getElem?_take_of_lt hj]; exact h3)
            obtain ⟨_, ⟨a, ha⟩, _⟩ := h.src.at_ j _ u h3 h4
            rcases hx with hx | hx | hx | hx
            · exact hnd1.2.2 _ hm1 _ hx rfl
            · exact h.src.out q.m (liveS_mem h3) (Or.inr (by rw [hx]; exact hlb))
            · exact h.src.out q.m (liveS_mem h3) (Or.inl (by rw [hx]; rfl))
            · have := ps_ty h.at_ ha hx
              exact absurd this (by decide)
        · have := (List.getElem?_eq_some_iff.1 h3).1
          omega
      · rcases getElem?_snoc h2 with h4 | ⟨_, rfl⟩
        · have := (List.getElem?_eq_some_iff.1 h4).1
          omega
        · refine ⟨hx.mono ?_, by rw [hty]; exact hty1, by rw [hty]; exact hty2⟩
          rintro b ((hb | hb) | hb)
          · cases hb
            exact Or.inl (Or.inl rfl)
          · exact absurd hb (fun x => x)
          · rw [hlive] at hb
            exact Or.inl (Or.inr hb)
    · rw [hlive] at hmm
      rcases ha with ha | ha
      · cases ha
        exact h.src.out _ (by rw [liveS_split hi]; exact List.mem_append_left _ hmm) (Or.inl rfl)
      · exact ha
    · rcases hb with hb | hb
      · cases hb
        obtain ⟨cur, hc⟩ := row_blk hr rfl
        exact hc.lt
      · exact absurd hb (fun x => x)
    · rcases getElem?_snoc h2 with h3 | ⟨_, h4⟩
      · rcases getElem?_snoc h1 with h5 | ⟨h5, _⟩
        · have hj : j + 1 < oi := by have := (List.getElem?_eq_some_iff.1 h3).1; omega
          rw [List.getElem?_take_of_lt hj] at h3
          rw [List.getElem?_take_of_lt (by omega)] at h5
          exact h.src.adj j a b h5 h3
        · have := (List.getElem?_eq_some_iff.1 h3).1
          omega
      · cases h4
  · cases hg
    exact ⟨(h.fresh lg rfl).1, fun x => x⟩
  · rw [hlive] at hmm
    exact h.new m (by rw [liveS_split hi]; exact List.mem_append_left _ hmm)
end Go.Proofs.YtmmopoofheblbaaGreatDoor.T

/- inline on any text: a closing bracket, up to the question whether it closes a link. -/
namespace Go.Proofs.YtmmopoofheblbaaGreatDoor.T
open Go Go.RowKit Go.Proofs

noncomputable def dCL : Code := thn (snd iClose)
noncomputable def d62 : Code := snd (snd (snd dCL))
noncomputable def dCL2 : Code := thn (snd d62)
noncomputable def d64 : Code := snd dCL2
noncomputable def dCL3 : Code := thn (snd d64)
theorem iClose_sq : iClose = .seq (fst iClose) (.cond (.tmp 165) (.seq (fst dCL) (.seq (fst (snd dCL)) (.seq (fst (snd (snd dCL))) (.seq (fst d62) (.cond (.tmp 199) (.seq (fst dCL2) (.seq (fst d64) (.cond (.tmp 209) dCL3 .skip))) .skip))))) .skip) := rfl

set_option maxRecDepth 100000 in
set_option maxHeartbeats 8000000 in
theorem d58_no (bp : Nat) (s : ByteArray) (ov : Value) (last : Nat) (bt : Bool) (i : Nat) (w : World) (hi : i < s.size) (hs : s.size ≤ 1000000) (hc : s[i] ≠ 93) (Q : Exit → Act → World → Prop) (h1 : ∀ a', FrI bp s ov last bt i a' → a'.eval (.tmp 165) = .bool false → Q .normal a' w)
    (a : Act) (ha : FrI bp s ov last bt i a) : Code.wp Tryz.prog (fst iClose) Q a w := by
  have H1 := Lib.hid h1
  have w1 : (i : Int) < s.size := by omega
  have w2 : (0 : Int) ≤ i := by omega
  have d1 : ((s[i].toNat : Int) == 93) = false := by
    apply beq_eq_false_iff_ne.2
    intro he
    exact hc (UInt8.toNat_inj.1 (by show s[i].toNat = 93; omega))
  clear h1 hc
  obtain ⟨v, rfl⟩ := ha
  conv => arg 2; whnf
  go_wp2_with fail
  exact H1.out _ ⟨(fun d => cond (Nat.ble 157 d && Nat.ble d 165) (List.getD [_, _, _, _, _, _, _, _, _] (d - 157) undef) (v d)), rfl⟩ rfl

set_option maxRecDepth 100000 in
set_option maxHeartbeats 8000000 in
theorem d58_yes (bp : Nat) (s : ByteArray) (oa : Option Addr) (on oc : Nat) (last : Nat) (bt : Bool) (i : Nat) (w : World) (hi : i < s.size) (hs : s.size ≤ 1000000) (hc : s[i] = 93) (Q : Exit → Act → World → Prop) (h1 : ∀ a', FrI bp s (.slice oa on oc) last bt i a' → a'.eval (.tmp 165) = .bool (decide (0 < on)) → Q .normal a' w)
    (a : Act) (ha : FrI bp s (.slice oa on oc) last bt i a) : Code.wp Tryz.prog (fst iClose) Q a w := by
  have H1 := Lib.hid h1
  have w1 : (i : Int) < s.size := by omega
  have w2 : (0 : Int) ≤ i := by omega
  have d1 : ((s[i].toNat : Int) == 93) = true := by rw [hc]; rfl
  clear h1 hc
  obtain ⟨v, rfl⟩ := ha
  conv => arg 2; whnf
  rcases Nat.eq_zero_or_pos on with h0 | h0
  · subst h0
    go_wp2_with fail
    exact H1.out _ ⟨(fun d => cond (Nat.ble 157 d && Nat.ble d 165) (List.getD [_, _, _, _, _, _, _, _, _] (d - 157) undef) (v d)), rfl⟩ rfl
  · have d2 : (0 : Int) < on := by omega
    have d3 : decide (0 < on) = true := by simpa using h0
    rw [d3] at H1
    go_wp2_with fail
    exact H1.out _ ⟨(fun d => cond (Nat.ble 157 d && Nat.ble d 165) (List.getD [_, _, _, _, _, _, _, _, _] (d - 157) undef) (v d)), rfl⟩ rfl

def Fr16c (bp : Nat) (s : ByteArray) (ov : Value) (last : Nat) (bt : Bool) (i oi : Nat) (a : Act) : Prop := ∃ v : Nat → Value, a = ⟨#[.pointer (some ⟨bp, 0, none⟩), .string s, undef, undef, .slice none 0 0, ov, .int .i64 last, .bool bt, .int .i64 i, v 9, v 10, v 11, v 12, v 13, v 14, v 15, .int .i64 oi, v 17, v 18, v 19, v 20, v 21, v 22, v 23, v 24, v 25, v 26, v 27, v 28, v 29, v 30, v 31, v 32, v 33, v 34, v 35, v 36, v 37, v 38, v 39, v 40, v 41, v 42, v 43, v 44, v 45, v 46, v 47, v 48, v 49, v 50, v 51, v 52, v 53, v 54, v 55, v 56, v 57, v 58, v 59, v 60, v 61, v 62, v 63, v 64, v 65, v 66, v 67, v 68, v 69, v 70, v 71, v 72, v 73, v 74, v 75, v 76, v 77, v 78, v 79, v 80, v 81, v 82, v 83, v 84, v 85, v 86, v 87, v 88, v 89, v 90, v 91, v 92, v 93, v 94, v 95, v 96, v 97, v 98, v 99, v 100, v 101, v 102, v 103, v 104, v 105, v 106, v 107, v 108, v 109, v 110, v 111, v 112, v 113, v 114, v 115, v 116, v 117, v 118, v 119, v 120, v 121, v 122, v 123, v 124, v 125, v 126, v 127, v 128, v 129, v 130, v 131, v 132, v 133, v 134, v 135, v 136, v 137, v 138, v 139, v 140, v 141, v 142, v 143, v 144, v 145, v 146, v 147, v 148, v 149, v 150, v 151, v 152, v 153, v 154, v 155, v 156, v 157, v 158, v 159, v 160, v 161, v 162, v 163, v 164, v 165, v 166, v 167, v 168, v 169, v 170, v 171, v 172, v 173, v 174, v 175, v 176, v 177, v 178, v 179, v 180, v 181, v 182, v 183, v 184, v 185, v 186, v 187, v 188, v 189, v 190, v 191, v 192, v 193, v 194, v 195, v 196, v 197, v 198, v 199, v 200, v 201, v 202, v 203, v 204, v 205, v 206, v 207, v 208, v 209, v 210, v 211, v 212, v 213, v 214, v 215, v 216, v 217, v 218, v 219, v 220, v 221, v 222, v 223, v 224, v 225, v 226, v 227, v 228, v 229, v 230, v 231, v 232, v 233, v 234, v 235, v 236, v 237, v 238, v 239, v 240, v 241, v 242, v 243, v 244, v 245, v 246, v 247, v 248, v 249, v 250, v 251, v 252, v 253, v 254, v 255, v 256, v 257, v 258, v 259, v 260, v 261, v 262, v 263, v 264, v 265, v 266, v 267, v 268, v 269, v 270, v 271, v 272, v 273, v 274, v 275, v 276, v 277, v 278, v 279, v 280, v 281, v 282, v 283, v 284, v 285, v 286, v 287, v 288, v 289, v 290, v 291, v 292, v 293, v 294, v 295, v 296, v 297, v 298, v 299, v 300, v 301, v 302, v 303, v 304, v 305, v 306, v 307, v 308, v 309, v 310, v 311, v 312, v 313, v 314, v 315, v 316, v 317, v 318, v 319, v 320, v 321, v 322, v 323, v 324, v 325, v 326, v 327, v 328, v 329, v 330, v 331, v 332, v 333, v 334], []⟩
def Fr17c (bp : Nat) (s : ByteArray) (ov : Value) (last : Nat) (bt : Bool) (i oi ob : Nat) (a : Act) : Prop := ∃ v : Nat → Value, a = ⟨#[.pointer (some ⟨bp, 0, none⟩), .string s, undef, undef, .slice none 0 0, ov, .int .i64 last, .bool bt, .int .i64 i, v 9, v 10, v 11, v 12, v 13, v 14, v 15, .int .i64 oi, .pointer (some ⟨ob, 0, none⟩), v 18, v 19, v 20, v 21, v 22, v 23, v 24, v 25, v 26, v 27, v 28, v 29, v 30, v 31, v 32, v 33, v 34, v 35, v 36, v 37, v 38, v 39, v 40, v 41, v 42, v 43, v 44, v 45, v 46, v 47, v 48, v 49, v 50, v 51, v 52, v 53, v 54, v 55, v 56, v 57, v 58, v 59, v 60, v 61, v 62, v 63, v 64, v 65, v 66, v 67, v 68, v 69, v 70, v 71, v 72, v 73, v 74, v 75, v 76, v 77, v 78, v 79, v 80, v 81, v 82, v 83, v 84, v 85, v 86, v 87, v 88, v 89, v 90, v 91, v 92, v 93, v 94, v 95, v 96, v 97, v 98, v 99, v 100, v 101, v 102, v 103, v 104, v 105, v 106, v 107, v 108, v 109, v 110, v 111, v 112, v 113, v 114, v 115, v 116, v 117, v 118, v 119, v 120, v 121, v 122, v 123, v 124, v 125, v 126, v 127, v 128, v 129, v 130, v 131, v 132, v 133, v 134, v 135, v 136, v 137, v 138, v 139, v 140, v 141, v 142, v 143, v 144, v 145, v 146, v 147, v 148, v 149, v 150, v 151, v 152, v 153, v 154, v 155, v 156, v 157, v 158, v 159, v 160, v 161, v 162, v 163, v 164, v 165, v 166, v 167, v 168, v 169, v 170, v 171, v 172, v 173, v 174, v 175, v 176, v 177, v 178, v 179, v 180, v 181, v 182, v 183, v 184, v 185, v 186, v 187, v 188, v 189, v 190, v 191, v 192, v 193, v 194, v 195, v 196, v 197, v 198, v 199, v 200, v 201, v 202, v 203, v 204, v 205, v 206, v 207, v 208, v 209, v 210, v 211, v 212, v 213, v 214, v 215, v 216, v 217, v 218, v 219, v 220, v 221, v 222, v 223, v 224, v 225, v 226, v 227, v 228, v 229, v 230, v 231, v 232, v 233, v 234, v 235, v 236, v 237, v 238, v 239, v 240, v 241, v 242, v 243, v 244, v 245, v 246, v 247, v 248, v 249, v 250, v 251, v 252, v 253, v 254, v 255, v 256, v 257, v 258, v 259, v 260, v 261, v 262, v 263, v 264, v 265, v 266, v 267, v 268, v 269, v 270, v 271, v 272, v 273, v 274, v 275, v 276, v 277, v 278, v 279, v 280, v 281, v 282, v 283, v 284, v 285, v 286, v 287, v 288, v 289, v 290, v 291, v 292, v 293, v 294, v 295, v 296, v 297, v 298, v 299, v 300, v 301, v 302, v 303, v 304, v 305, v 306, v 307, v 308, v 309, v 310, v 311, v 312, v 313, v 314, v 315, v 316, v 317, v 318, v 319, v 320, v 321, v 322, v 323, v 324, v 325, v 326, v 327, v 328, v 329, v 330, v 331, v 332, v 333, v 334], []⟩
theorem Fr17c.fri {bp : Nat} {s : ByteArray} {ov : Value} {last : Nat} {bt : Bool} {i oi ob : Nat} {a : Act} (h : Fr17c bp s ov last bt i oi ob a) : FrI bp s ov last bt i a := by
  obtain ⟨v, rfl⟩ := h
  exact ⟨(fun d => cond (Nat.ble 16 d && Nat.ble d 17) (List.getD [_, _] (d - 16) undef) (v d)), rfl⟩

set_option maxRecDepth 100000 in
set_option maxHeartbeats 8000000 in
theorem d59 (bp : Nat) (s : ByteArray) (og k oc oi : Nat) (last : Nat) (bt : Bool) (i : Nat) (w : World) (hk : k ≤ 1000000) (c0 : w.cell? ⟨og, k, none⟩ = some (.int .i64 oi)) (Q : Exit → Act → World → Prop) (h1 : ∀ a', Fr16c bp s (.slice (some ⟨og, 0, none⟩) (k + 1) oc) last bt i oi a' → Q .normal a' w)
    (a : Act) (ha : FrI bp s (.slice (some ⟨og, 0, none⟩) (k + 1) oc) last bt i a) : Code.wp Tryz.prog (fst dCL) Q a w := by
  have H1 := Lib.hid h1
  have w1 : IntKind.i64.wrap (k : Int) = k := IntWalk.i64_in _ (by omega)
  have w2 : (0 : Int) ≤ k := by omega
  have w3 : (k : Int) < (k : Int) + 1 := by omega
  clear h1
  obtain ⟨v, rfl⟩ := ha
  conv => arg 2; whnf
  go_wp2_with fail
  exact H1.out _ ⟨(fun d => cond (Nat.ble 166 d && Nat.ble d 171) (List.getD [_, _, _, _, _, _] (d - 166) undef) (v d)), rfl⟩

theorem as_open_must (X : Nat) (v : Value) (w : World) : (Instr.typeAssert (.iface 228 v) X 228 false).run Tryz.prog w = .ok v w := by kernel_rfl

set_option maxRecDepth 100000 in
set_option maxHeartbeats 8000000 in
theorem d60 (bp : Nat) (s : ByteArray) (ov : Value) (oi ob lg n lc : Nat) (last : Nat) (bt : Bool) (i : Nat) (w : World) (hn : n ≤ 1000000) (k9 : w.cell? ⟨bp, 9, none⟩ = some (.slice (some ⟨lg, 0, none⟩) n lc)) (hoi : oi < n) (c0 : w.cell? ⟨lg, oi, none⟩ = some (.iface 228 (.pointer (some ⟨ob, 0, none⟩)))) (Q : Exit → Act → World → Prop)
    (h1 : ∀ a', Fr17c bp s ov last bt i oi ob a' → Q .normal a' w) (a : Act) (ha : Fr16c bp s ov last bt i oi a) : Code.wp Tryz.prog (fst (snd dCL)) Q a w := by
  have H1 := Lib.hid h1
  have q1 := as_open_must
  have w2 : (0 : Int) ≤ oi := by omega
  have w3 : (oi : Int) < n := by omega
  clear h1
  obtain ⟨v, rfl⟩ := ha
  conv => arg 2; whnf
  go_wp2_with fail
  exact H1.out _ ⟨(fun d => cond (Nat.ble 172 d && Nat.ble d 179) (List.getD [_, _, _, _, _, _, _, _] (d - 172) undef) (v d)), rfl⟩

set_option maxRecDepth 100000 in
set_option maxHeartbeats 8000000 in
theorem d61 (bp : Nat) (s : ByteArray) (og k oc oi ob : Nat) (last : Nat) (bt : Bool) (i : Nat) (w : World) (hk : k ≤ 1000000) (hc : k + 1 ≤ oc) (Q : Exit → Act → World → Prop) (h1 : ∀ a', Fr17c bp s (.slice (some ⟨og, 0, none⟩) k oc) last bt i oi ob a' → Q .normal a' w)
    (a : Act) (ha : Fr17c bp s (.slice (some ⟨og, 0, none⟩) (k + 1) oc) last bt i oi ob a) : Code.wp Tryz.prog (fst (snd (snd dCL))) Q a w := by
  have H1 := Lib.hid h1
  have w1 : IntKind.i64.wrap (k : Int) = k := IntWalk.i64_in _ (by omega)
  have w2 : (0 : Int) ≤ k := by omega
  have w3 : (k : Int) ≤ oc := by omega
  clear h1
  obtain ⟨v, rfl⟩ := ha
  conv => arg 2; whnf
  go_wp2_with fail
  exact H1.out _ ⟨(fun d => cond (Nat.ble 180 d && Nat.ble d 184) (List.getD [_, _, _, _, _] (d - 180) undef) (v d)), rfl⟩

set_option maxRecDepth 100000 in
set_option maxHeartbeats 8000000 in
theorem d62t (bp : Nat) (s : ByteArray) (ov : Value) (oi ob pos : Nat) (img : Bool) (last : Nat) (bt : Bool) (i : Nat) (w : World) (hb : Blk w ob #[.string (bra img), .int .i64 (pos : Int)] 231) (Q : Exit → Act → World → Prop)
    (h1 : ∀ a', Fr17c bp s ov last bt i oi ob a' → a'.eval (.tmp 199) = .bool (img || decide (last ≤ pos)) → Q .normal a' w)
    (a : Act) (ha : Fr17c bp s ov last bt i oi ob a) : Code.wp Tryz.prog (fst d62) Q a w := by
  have c0 : w.cell? ⟨ob, 0, none⟩ = some (.string (bra img)) := hb.cell 0
  have c1 : w.cell? ⟨ob, 1, none⟩ = some (.int .i64 pos) := hb.cell 1
  clear hb
  cases img with
  | true =>
    have H1 := Lib.hid h1
    have c0' : w.cell? ⟨ob, 0, none⟩ = some (.string ⟨#[33, 91]⟩) := c0
    clear h1 c0
    obtain ⟨v, rfl⟩ := ha
    conv => arg 2; whnf
    go_wp2_with fail
    exact H1.out _ ⟨(fun d => cond (Nat.ble 185 d && Nat.ble d 199) (List.getD [_, _, _, _, _, _, _, _, _, _, _, _, _, _, _] (d - 185) undef) (v d)), rfl⟩ rfl
  | false =>
    have c0' : w.cell? ⟨ob, 0, none⟩ = some (.string ⟨#[91]⟩) := c0
    clear c0
    by_cases hl : last ≤ pos
    · have w1 : (last : Int) ≤ pos := by omega
      have hd : decide (last ≤ pos) = true := by simpa using hl
      rw [hd] at h1
      have H1 := Lib.hid h1
      clear h1
      obtain ⟨v, rfl⟩ := ha
      conv => arg 2; whnf
      go_wp2_with fail
      exact H1.out _ ⟨(fun d => cond (Nat.ble 185 d && Nat.ble d 199) (List.getD [_, _, _, _, _, _, _, _, _, _, _, _, _, _, _] (d - 185) undef) (v d)), rfl⟩ rfl
    · have w1 : ¬ ((last : Int) ≤ pos) := by omega
      have hd : decide (last ≤ pos) = false := by simpa using hl
      rw [hd] at h1
      have H1 := Lib.hid h1
      clear h1
      obtain ⟨v, rfl⟩ := ha
      conv => arg 2; whnf
      go_wp2_with fail
      exact H1.out _ ⟨(fun d => cond (Nat.ble 185 d && Nat.ble d 199) (List.getD [_, _, _, _, _, _, _, _, _, _, _, _, _, _, _] (d - 185) undef) (v d)), rfl⟩ rfl
end Go.Proofs.YtmmopoofheblbaaGreatDoor.T

/- inline on any text: a closing bracket that closes a link, region by region. -/
namespace Go.Proofs.YtmmopoofheblbaaGreatDoor.T
open Go Go.RowKit Go.Proofs

def FrL (bp : Nat) (s : ByteArray) (ov : Value) (last : Nat) (bt : Bool) (i oi ob : Nat) (xa : Option Addr) (en : Nat) (ok : Bool) (a : Act) : Prop := ∃ v : Nat → Value, a = ⟨#[.pointer (some ⟨bp, 0, none⟩), .string s, undef, undef, .slice none 0 0, ov, .int .i64 last, .bool bt, .int .i64 i, v 9, v 10, v 11, v 12, v 13, v 14, v 15, .int .i64 oi, .pointer (some ⟨ob, 0, none⟩), .pointer xa, .int .i64 en, .bool ok, v 21, v 22, v 23, v 24, v 25, v 26, v 27, v 28, v 29, v 30, v 31, v 32, v 33, v 34, v 35, v 36, v 37, v 38, v 39, v 40, v 41, v 42, v 43, v 44, v 45, v 46, v 47, v 48, v 49, v 50, v 51, v 52, v 53, v 54, v 55, v 56, v 57, v 58, v 59, v 60, v 61, v 62, v 63, v 64, v 65, v 66, v 67, v 68, v 69, v 70, v 71, v 72, v 73, v 74, v 75, v 76, v 77, v 78, v 79, v 80, v 81, v 82, v 83, v 84, v 85, v 86, v 87, v 88, v 89, v 90, v 91, v 92, v 93, v 94, v 95, v 96, v 97, v 98, v 99, v 100, v 101, v 102, v 103, v 104, v 105, v 106, v 107, v 108, v 109, v 110, v 111, v 112, v 113, v 114, v 115, v 116, v 117, v 118, v 119, v 120, v 121, v 122, v 123, v 124, v 125, v 126, v 127, v 128, v 129, v 130, v 131, v 132, v 133, v 134, v 135, v 136, v 137, v 138, v 139, v 140, v 141, v 142, v 143, v 144, v 145, v 146, v 147, v 148, v 149, v 150, v 151, v 152, v 153, v 154, v 155, v 156, v 157, v 158, v 159, v 160, v 161, v 162, v 163, v 164, v 165, v 166, v 167, v 168, v 169, v 170, v 171, v 172, v 173, v 174, v 175, v 176, v 177, v 178, v 179, v 180, v 181, v 182, v 183, v 184, v 185, v 186, v 187, v 188, v 189, v 190, v 191, v 192, v 193, v 194, v 195, v 196, v 197, v 198, v 199, v 200, v 201, v 202, v 203, v 204, v 205, v 206, v 207, v 208, v 209, v 210, v 211, v 212, v 213, v 214, v 215, v 216, v 217, v 218, v 219, v 220, v 221, v 222, v 223, v 224, v 225, v 226, v 227, v 228, v 229, v 230, v 231, v 232, v 233, v 234, v 235, v 236, v 237, v 238, v 239, v 240, v 241, v 242, v 243, v 244, v 245, v 246, v 247, v 248, v 249, v 250, v 251, v 252, v 253, v 254, v 255, v 256, v 257, v 258, v 259, v 260, v 261, v 262, v 263, v 264, v 265, v 266, v 267, v 268, v 269, v 270, v 271, v 272, v 273, v 274, v 275, v 276, v 277, v 278, v 279, v 280, v 281, v 282, v 283, v 284, v 285, v 286, v 287, v 288, v 289, v 290, v 291, v 292, v 293, v 294, v 295, v 296, v 297, v 298, v 299, v 300, v 301, v 302, v 303, v 304, v 305, v 306, v 307, v 308, v 309, v 310, v 311, v 312, v 313, v 314, v 315, v 316, v 317, v 318, v 319, v 320, v 321, v 322, v 323, v 324, v 325, v 326, v 327, v 328, v 329, v 330, v 331, v 332, v 333, v 334], []⟩
theorem FrL.fri {bp : Nat} {s : ByteArray} {ov : Value} {last : Nat} {bt : Bool} {i oi ob en : Nat} {xa : Option Addr} {ok : Bool} {a : Act} (h : FrL bp s ov last bt i oi ob xa en ok a) : FrI bp s ov last bt i a := by
  obtain ⟨v, rfl⟩ := h
  exact ⟨(fun d => cond (Nat.ble 16 d && Nat.ble d 20) (List.getD [_, _, _, _, _] (d - 16) undef) (v d)), rfl⟩

set_option maxRecDepth 100000 in
set_option maxHeartbeats 8000000 in
theorem d63 (bp : Nat) (s : ByteArray) (ov : Value) (oi ob : Nat) (last : Nat) (bt : Bool) (i : Nat) (w : World) (R : World → Option Addr → Nat → Bool → Prop)
    (hcall : Calls Tryz.prog 115 #[.pointer (some ⟨bp, 0, none⟩), .string s, .int .i64 i, .pointer (some ⟨ob, 0, none⟩)] w fun e w' => ∃ (xa : Option Addr) (en : Nat) (ok : Bool), e = .returned (.tuple #[.pointer xa, .int .i64 en, .bool ok]) ∧ R w' xa en ok) (Q : Exit → Act → World → Prop)
    (h1 : ∀ a' w' xa en ok, FrL bp s ov last bt i oi ob xa en ok a' → R w' xa en ok → Q .normal a' w')
    (a : Act) (ha : Fr17c bp s ov last bt i oi ob a) : Code.wp Tryz.prog (fst dCL2) Q a w := by
  have H1 := Lib.hid h1
  have HC := Lib.hid hcall
  clear h1 hcall
  obtain ⟨v, rfl⟩ := ha
  conv => arg 2; whnf
  go_wp2_with fail
  refine HC.out.mono ?_
  rintro e w' ⟨xa, en, ok, rfl, hR⟩
  have HR := Lib.hid hR
  clear hR
  go_wp2_with fail
  exact H1.out _ _ xa en ok ⟨(fun d => cond (Nat.ble 200 d && Nat.ble d 208) (List.getD [_, _, _, _, _, _, _, _, _] (d - 200) undef) (v d)), rfl⟩ HR.out

set_option maxRecDepth 100000 in
set_option maxHeartbeats 8000000 in
theorem d64t (bp : Nat) (s : ByteArray) (ov : Value) (oi ob : Nat) (last : Nat) (bt : Bool) (i : Nat) (xa : Option Addr) (en : Nat) (ok : Bool) (w : World) (Q : Exit → Act → World → Prop)
    (h1 : ∀ a', FrL bp s ov last bt i oi ob xa en ok a' → a'.eval (.tmp 209) = .bool ok → Q .normal a' w)
    (a : Act) (ha : FrL bp s ov last bt i oi ob xa en ok a) : Code.wp Tryz.prog (fst d64) Q a w := by
  have H1 := Lib.hid h1
  clear h1
  obtain ⟨v, rfl⟩ := ha
  conv => arg 2; whnf
  go_wp2_with fail
  exact H1.out _ ⟨(fun d => cond (Nat.ble 209 d && Nat.ble d 209) (List.getD [_] (d - 209) undef) (v d)), rfl⟩ rfl

noncomputable def d66 : Code := snd dCL3
noncomputable def d67 : Code := snd d66
noncomputable def d68 : Code := snd d67
noncomputable def d71 : Code := snd d68
noncomputable def d72 : Code := snd d71
noncomputable def d73 : Code := snd d72
noncomputable def d74 : Code := snd d73
theorem dCL3_sq : dCL3 = .seq (fst dCL3) (.seq (fst d66) (.seq (fst d67) (.seq (fst d68) (.seq (fst d71) (.seq (fst d72) (.seq (fst d73) (.seq (fst d74) (.exit 1)))))))) := rfl

/-- Some truth value. -/
def SomeB (e : Ending) (P : Bool → Prop) : Prop := ∃ b : Bool, e = .returned (.bool b) ∧ P b

set_option maxRecDepth 100000 in
set_option maxHeartbeats 8000000 in
theorem d65 (bp : Nat) (s : ByteArray) (ov : Value) (oi ob : Nat) (last : Nat) (bt : Bool) (i lb en : Nat) (url : ByteArray) (cr : Bool) (q : PSt) (w : World) (hp : PsAt w bp q) (hu : w.cell? ⟨lb, 1, none⟩ = some (.string url)) (hcr : w.cell? ⟨lb, 4, none⟩ = some (.bool cr))
    (hLC : Calls Tryz.prog 116 #[.string url] w fun e w' => SomeB e (fun _ => w = w')) (Q : Exit → Act → World → Prop)
    (h1 : ∀ a' c, FrL bp s ov last bt i oi ob (some ⟨lb, 0, none⟩) en true a' → Q .normal a' (w.setCell ⟨bp, 6, none⟩ (.bool c)))
    (a : Act) (ha : FrL bp s ov last bt i oi ob (some ⟨lb, 0, none⟩) en true a) : Code.wp Tryz.prog (fst dCL3) Q a w := by
  have H1 := Lib.hid h1
  have HC := Lib.hid hLC
  have k6 := hp.corner
  have f6 := hp.fr 6
  have hl := hp.lt
  generalize q.corner = c at k6
  clear h1 hLC hp
  obtain ⟨v, rfl⟩ := ha
  conv => arg 2; whnf
  cases c with
  | true =>
    go_wp2_with fail
    exact H1.out _ true ⟨(fun d => cond (Nat.ble 210 d && Nat.ble d 229) (cond (Nat.ble d 225) (List.getD [_, _, _, _, _, _, _, _, _, _, _, _, _, _, _, _] (d - 210) undef) (List.getD [_, _, _, _] (d - 226) undef)) (v d)), rfl⟩
  | false =>
    cases cr with
    | true =>
      go_wp2_with fail
      exact H1.out _ true ⟨(fun d => cond (Nat.ble 210 d && Nat.ble d 229) (cond (Nat.ble d 225) (List.getD [_, _, _, _, _, _, _, _, _, _, _, _, _, _, _, _] (d - 210) undef) (List.getD [_, _, _, _] (d - 226) undef)) (v d)), rfl⟩
    | false =>
      go_wp2_with fail
      refine HC.out.mono ?_
      rintro e w' ⟨b, rfl, rfl⟩
      go_wp2_with fail
      exact H1.out _ b ⟨(fun d => cond (Nat.ble 210 d && Nat.ble d 229) (cond (Nat.ble d 225) (List.getD [_, _, _, _, _, _, _, _, _, _, _, _, _, _, _, _] (d - 210) undef) (List.getD [_, _, _, _] (d - 226) undef)) (v d)), rfl⟩

set_option maxRecDepth 100000 in
set_option maxHeartbeats 8000000 in
theorem d66t (bp : Nat) (s : ByteArray) (ov : Value) (oi ob : Nat) (last : Nat) (bt : Bool) (i : Nat) (xa : Option Addr) (en : Nat) (w : World) (R : World → Prop)
    (hcall : Calls Tryz.prog 113 #[.pointer (some ⟨bp, 0, none⟩), .int .i64 i] w fun e w' => e = .returned (.tuple #[]) ∧ R w') (Q : Exit → Act → World → Prop)
    (h1 : ∀ a' w', FrL bp s ov last bt i oi ob xa en true a' → R w' → Q .normal a' w')
    (a : Act) (ha : FrL bp s ov last bt i oi ob xa en true a) : Code.wp Tryz.prog (fst d66) Q a w := by
  have H1 := Lib.hid h1
  have HC := Lib.hid hcall
  clear h1 hcall
  obtain ⟨v, rfl⟩ := ha
  conv => arg 2; whnf
  go_wp2_with fail
  refine HC.out.mono ?_
  rintro e w' ⟨rfl, hR⟩
  have HR := Lib.hid hR
  clear hR
  go_wp2_with fail
  exact H1.out _ _ ⟨(fun d => cond (Nat.ble 230 d && Nat.ble d 232) (List.getD [_, _, _] (d - 230) undef) (v d)), rfl⟩ HR.out

set_option maxRecDepth 100000 in
set_option maxHeartbeats 8000000 in
/-- Something stands behind the bracket. -/
theorem d67_some (bp : Nat) (s : ByteArray) (ov : Value) (oi ob : Nat) (last : Nat) (bt : Bool) (i lb en lg n lc : Nat) (w : World) (hn : n ≤ 1000000) (hlc : n ≤ lc) (hlc2 : lc ≤ maxLen) (hoi : oi + 1 < n) (k9 : w.cell? ⟨bp, 9, none⟩ = some (.slice (some ⟨lg, 0, none⟩) n lc))
    (R : World → Option Addr → Nat → Nat → Prop)
    (hcall : Calls Tryz.prog 117 #[.pointer (some ⟨bp, 0, none⟩), .slice none 0 0, .slice (some ⟨lg, oi + 1, none⟩) (n - (oi + 1)) (lc - (oi + 1))] w fun e w' => ∃ (ga : Option Addr) (gn gc : Nat), e = .returned (.slice ga gn gc) ∧ (∃ cs, Blk w' lb cs 114 ∧ cs[0]? = some (.slice none 0 0)) ∧ R w' ga gn gc) (Q : Exit → Act → World → Prop)
    (h1 : ∀ a' w' ga gn gc, FrL bp s ov last bt i oi ob (some ⟨lb, 0, none⟩) en true a' → R w' ga gn gc → Q .normal a' (w'.setCell ⟨lb, 0, none⟩ (.slice ga gn gc)))
    (a : Act) (ha : FrL bp s ov last bt i oi ob (some ⟨lb, 0, none⟩) en true a) : Code.wp Tryz.prog (fst d67) Q a w := by
  have H1 := Lib.hid h1
  have HC := Lib.hid hcall
  unfold maxLen at hlc2
  have c1 : IntKind.i64.wrap ((oi : Int) + 1) = (oi : Int) + 1 := IntWalk.i64_in _ (by omega)
  have c2 : (0 : Int) ≤ (oi : Int) + 1 := by omega
  have c3 : (oi : Int) + 1 ≤ n := by omega
  have c4 : (n : Int) ≤ lc := by omega
  have c5 : (oi : Int) + 1 ≤ lc := by omega
  have c6 : ¬ lc = oi + 1 := by omega
  have c7 : ((oi : Int) + 1).toNat = oi + 1 := by omega
  have c8 : ¬ (lc : Int) = (oi : Int) + 1 := by omega
  clear h1 hcall
  obtain ⟨v, rfl⟩ := ha
  conv => arg 2; whnf
  go_wp2_with fail
  refine HC.out.mono ?_
  rintro e w' ⟨ga, gn, gc, rfl, ⟨cs, hlb, hl0⟩, hR⟩
  have l0 := (hlb.cell 0).trans hl0
  have l1 := hlb.fr 0
  have l2 := hlb.lt
  have HR := Lib.hid hR
  clear hR hlb hl0 k9
  go_wp2_with fail
  exact H1.out _ _ ga gn gc ⟨(fun d => cond (Nat.ble 233 d && Nat.ble d 244) (List.getD [_, _, _, _, _, _, _, _, _, _, _, _] (d - 233) undef) (v d)), rfl⟩ HR.out

set_option maxRecDepth 100000 in
set_option maxHeartbeats 8000000 in
theorem d68t (bp : Nat) (s : ByteArray) (ov : Value) (oi ob : Nat) (img : Bool) (pos : Nat) (last : Nat) (bt : Bool) (i lb en lg n lc : Nat) (w : World) (hn : n ≤ 1000000) (hoi : oi < n) (k9 : w.cell? ⟨bp, 9, none⟩ = some (.slice (some ⟨lg, 0, none⟩) n lc)) (hb : Blk w ob #[.string (bra img), .int .i64 (pos : Int)] 231)
    (lv : Value) (c0 : w.cell? ⟨lg, oi, none⟩ = some lv) (c1 : w.frozen? ⟨lg, oi, none⟩ = false) (c2 : lg < w.heap.size) (Q : Exit → Act → World → Prop)
    (h1 : ∀ a', FrL bp s ov last bt i oi ob (some ⟨lb, 0, none⟩) en true a' → Q .normal a' (w.setCell ⟨lg, oi, none⟩ (.iface (if img then 210 else 112) (.pointer (some ⟨lb, 0, none⟩)))))
    (a : Act) (ha : FrL bp s ov last bt i oi ob (some ⟨lb, 0, none⟩) en true a) : Code.wp Tryz.prog (fst d68) Q a w := by
  have b0 : w.cell? ⟨ob, 0, none⟩ = some (.string (bra img)) := hb.cell 0
  have w1 : (0 : Int) ≤ oi := by omega
  have w2 : (oi : Int) < n := by omega
  clear hb
  cases img with
  | true =>
    have H1 := Lib.hid h1
    have b0' : w.cell? ⟨ob, 0, none⟩ = some (.string ⟨#[33, 91]⟩) := b0
    clear h1 b0
    obtain ⟨v, rfl⟩ := ha
    conv => arg 2; whnf
    go_wp2_with fail
    exact H1.out _ ⟨(fun d => cond (Nat.ble 245 d && Nat.ble d 267) (cond (Nat.ble d 260) (List.getD [_, _, _, _, _, _, _, _, _, _, _, _, _, _, _, _] (d - 245) undef) (List.getD [_, _, _, _, _, _, _] (d - 261) undef)) (v d)), rfl⟩
  | false =>
    have H1 := Lib.hid h1
    have b0' : w.cell? ⟨ob, 0, none⟩ = some (.string ⟨#[91]⟩) := b0
    clear h1 b0
    obtain ⟨v, rfl⟩ := ha
    conv => arg 2; whnf
    go_wp2_with fail
    exact H1.out _ ⟨(fun d => cond (Nat.ble 245 d && Nat.ble d 267) (cond (Nat.ble d 260) (List.getD [_, _, _, _, _, _, _, _, _, _, _, _, _, _, _, _] (d - 245) undef) (List.getD [_, _, _, _, _, _, _] (d - 261) undef)) (v d)), rfl⟩

set_option maxRecDepth 100000 in
set_option maxHeartbeats 8000000 in
theorem d71t (bp : Nat) (s : ByteArray) (ov : Value) (oi ob : Nat) (last : Nat) (bt : Bool) (i lb en lg n lc : Nat) (w : World) (hn : n ≤ 1000000) (hoi : oi < n) (hlc : n ≤ lc) (k9 : w.cell? ⟨bp, 9, none⟩ = some (.slice (some ⟨lg, 0, none⟩) n lc)) (f9 : w.frozen? ⟨bp, 9, none⟩ = false) (hl : bp < w.heap.size) (Q : Exit → Act → World → Prop)
    (h1 : ∀ a', FrL bp s ov last bt i oi ob (some ⟨lb, 0, none⟩) en true a' → Q .normal a' (w.setCell ⟨bp, 9, none⟩ (.slice (some ⟨lg, 0, none⟩) (oi + 1) lc)))
    (a : Act) (ha : FrL bp s ov last bt i oi ob (some ⟨lb, 0, none⟩) en true a) : Code.wp Tryz.prog (fst d71) Q a w := by
  have H1 := Lib.hid h1
  have c1 : IntKind.i64.wrap ((oi : Int) + 1) = (oi : Int) + 1 := IntWalk.i64_in _ (by omega)
  have c2 : (0 : Int) ≤ (oi : Int) + 1 := by omega
  have c3 : (oi : Int) + 1 ≤ lc := by omega
  have c7 : ((oi : Int) + 1).toNat = oi + 1 := by omega
  clear h1
  obtain ⟨v, rfl⟩ := ha
  conv => arg 2; whnf
  go_wp2_with fail
  exact H1.out _ ⟨(fun d => cond (Nat.ble 268 d && Nat.ble d 277) (List.getD [_, _, _, _, _, _, _, _, _, _] (d - 268) undef) (v d)), rfl⟩

set_option maxRecDepth 100000 in
set_option maxHeartbeats 8000000 in
theorem d72t (bp : Nat) (s : ByteArray) (ov : Value) (oi ob : Nat) (last : Nat) (bt : Bool) (i : Nat) (xa : Option Addr) (en : Nat) (w : World) (R : World → Prop)
    (hcall : Calls Tryz.prog 114 #[.pointer (some ⟨bp, 0, none⟩), .int .i64 en] w fun e w' => e = .returned (.tuple #[]) ∧ R w') (Q : Exit → Act → World → Prop)
    (h1 : ∀ a' w', FrL bp s ov last bt i oi ob xa en true a' → R w' → Q .normal a' w')
    (a : Act) (ha : FrL bp s ov last bt i oi ob xa en true a) : Code.wp Tryz.prog (fst d72) Q a w := by
  have H1 := Lib.hid h1
  have HC := Lib.hid hcall
  clear h1 hcall
  obtain ⟨v, rfl⟩ := ha
  conv => arg 2; whnf
  go_wp2_with fail
  refine HC.out.mono ?_
  rintro e w' ⟨rfl, hR⟩
  have HR := Lib.hid hR
  clear hR
  go_wp2_with fail
  exact H1.out _ _ ⟨(fun d => cond (Nat.ble 278 d && Nat.ble d 280) (List.getD [_, _, _] (d - 278) undef) (v d)), rfl⟩ HR.out

set_option maxRecDepth 100000 in
set_option maxHeartbeats 8000000 in
theorem d73t (bp : Nat) (s : ByteArray) (ov : Value) (oi ob : Nat) (last : Nat) (bt : Bool) (i : Nat) (xa : Option Addr) (en : Nat) (w : World) (Q : Exit → Act → World → Prop)
    (h1 : ∀ a', FrL bp s ov last bt en oi ob xa en true a' → Q .normal a' w)
    (a : Act) (ha : FrL bp s ov last bt i oi ob xa en true a) : Code.wp Tryz.prog (fst d73) Q a w := by
  have H1 := Lib.hid h1
  clear h1
  obtain ⟨v, rfl⟩ := ha
  conv => arg 2; whnf
  go_wp2_with fail
  exact H1.out _ ⟨(fun d => cond (Nat.ble 281 d && Nat.ble d 281) (List.getD [_] (d - 281) undef) (v d)), rfl⟩

set_option maxRecDepth 100000 in
set_option maxHeartbeats 8000000 in
theorem d74t (bp : Nat) (s : ByteArray) (ov : Value) (oi ob pos : Nat) (img : Bool) (last : Nat) (bt : Bool) (i : Nat) (xa : Option Addr) (en : Nat) (w : World) (hb : Blk w ob #[.string (bra img), .int .i64 (pos : Int)] 231) (Q : Exit → Act → World → Prop)
    (h1 : ∀ a', FrI bp s ov (if img then last else pos) bt i a' → Q .normal a' w)
    (a : Act) (ha : FrL bp s ov last bt i oi ob xa en true a) : Code.wp Tryz.prog (fst d74) Q a w := by
  have b0 : w.cell? ⟨ob, 0, none⟩ = some (.string (bra img)) := hb.cell 0
  have b1 : w.cell? ⟨ob, 1, none⟩ = some (.int .i64 pos) := hb.cell 1
  clear hb
  cases img with
  | true =>
    have H1 := Lib.hid h1
    have b0' : w.cell? ⟨ob, 0, none⟩ = some (.string ⟨#[33, 91]⟩) := b0
    clear h1 b0
    obtain ⟨v, rfl⟩ := ha
    conv => arg 2; whnf
    go_wp2_with fail
    exact H1.out _ ⟨(fun d => cond (Nat.ble 16 d && Nat.ble d 20) (List.getD [_, _, _, _, _] (d - 16) undef) (cond (Nat.ble 282 d && Nat.ble d 292) (List.getD [_, _, _, _, _, _, _, _, _, _, _] (d - 282) undef) (v d))), rfl⟩
  | false =>
    have H1 := Lib.hid h1
    have b0' : w.cell? ⟨ob, 0, none⟩ = some (.string ⟨#[91]⟩) := b0
    clear h1 b0
    obtain ⟨v, rfl⟩ := ha
    conv => arg 2; whnf
    go_wp2_with fail
    exact H1.out _ ⟨(fun d => cond (Nat.ble 16 d && Nat.ble d 20) (List.getD [_, _, _, _, _] (d - 16) undef) (cond (Nat.ble 282 d && Nat.ble d 292) (List.getD [_, _, _, _, _, _, _, _, _, _, _] (d - 282) undef) (v d))), rfl⟩
end Go.Proofs.YtmmopoofheblbaaGreatDoor.T

/- inline on any text: an open bracket is read. -/
namespace Go.Proofs.YtmmopoofheblbaaGreatDoor.T
open Go Go.RowKit Go.Proofs

section
variable {w : World} {ops : Array Oper} {rest : List Oper} {o : Oper} {a : Act} {Q : Exit → Act → World → Prop}
theorem ap_int (hgd : o.guard = none) (s x : Operand) (ho : o.op = .call { callee := .builtin .append, args := #[s, x], argTypes := #[46, 46] })
    (v : Value) (n : Nat) (xs : List Value) (hs : a.eval s = v) (hown : w.ownsRow 0 3 1 v n xs)
    (b c : Nat) (u : Int) (hx : a.eval x = .slice (some ⟨b, 0, none⟩) 1 c) (hu : w.cell? ⟨b, 0, none⟩ = some (.int .i64 u)) (hn : n ≤ 1000000)
    (h : ∀ g cap w', w'.ownsRow 0 3 1 (.slice (some ⟨g, 0, none⟩) (n + 1) cap) (n + 1) (xs ++ [.int .i64 u]) → w.grownBy w' v.ownBlock → (v.ownBlock = some g ∨ g = w.heap.size) → wpList Tryz.prog ops Q rest (a.put o.dst (.slice (some ⟨g, 0, none⟩) (n + 1) cap)) w') : wpList Tryz.prog ops Q (o :: rest) a w :=
  ap1 hgd s x 46 3 1 8 ho (.int .i64 0) Tryz.underlying46 (by kernel_rfl) rfl (by decide) (by decide) v n xs hs hown b c [.int .i64 u] hx rfl
    (fun j y hy => by cases j with
      | zero => simp at hy; subst hy; exact hu
      | succ j => simp at hy) (fun y hy => by simp at hy; subst hy; rfl) hn h
end

theorem ISt.int {B : Nat → Prop} {w0 w w' : World} {bp : Nat} {p : PSt} {s : ByteArray} {e : Nat} {lv : Value} {xs : List Value} {l : List Sr} {ov : Value} {n : Nat} {ys : List Value} {o : Obj} (h : ISt B w0 w bp p s e lv xs l) (hr : w.ownsRow 0 3 1 ov n ys) (hf : ∀ g, ov.ownBlock = some g → w0.heap.size ≤ g) (hg : (w.alloc o).grownBy w' ov.ownBlock) : ISt B w0 w' bp p s e lv xs l := by
  have hS : Same w (w.alloc o) := (Mods.refl _ w).alloc o
  have h1 := h.same hS
  have hm := grown_mods hg
  have hty : ∀ b, ov.ownBlock = some b → ∃ cur, Blk (w.alloc o) b cur 3 := fun b hb => by
    obtain ⟨cur, hc⟩ := row_blk hr hb
    exact ⟨cur, hS.blk hc⟩
  refine ⟨h1.mods.then hm (fun b hb hx => by have := hf b hx; omega), h1.at_.keep hm (fun x => ?_), ownsRow_keep h1.row hm (fun g hgx x => ?_), h1.src.move hm (fun b cs T hb hT x => ?_) (fun _ x => Or.inl x) (fun b hb => by have := h1.src.a0 b hb; have := hm.size; omega), h1.fresh, h1.new, h1.nb⟩
  · obtain ⟨cur, hc⟩ := hty _ x
    have := ps_ty h1.at_ hc rfl
    exact absurd this (by decide)
  · obtain ⟨cur, hc⟩ := hty _ x
    obtain ⟨cur2, hc2⟩ := row_blk h1.row hgx
    exact hc.ne_of_type hc2 (by decide) rfl
  · exfalso
    obtain ⟨cur, hc⟩ := hty _ x
    unfold Blk at hb hc
    rw [hb] at hc
    cases hc
    exact absurd hT (by decide)

/-- Whether a bracket is that of an image. -/
def bra' (t : ByteArray) : Bool := t.size == 2

set_option maxRecDepth 100000 in
set_option maxHeartbeats 8000000 in
theorem call_open {w0 w : World} {bp : Nat} {p : PSt} {s : ByteArray} {e : Nat} {lv : Value} {xs : List Value} {l : List Sr} (hS : ISt NoB w0 w bp p s e lv xs l) (ov : Value) (ops : List OpE) (hops : OpsAt w0 w ov ops) (last : Nat) (bt : Bool) (i fn st en : Nat) (t : ByteArray) (pos : Nat)
    (hcf : ∀ (args : Array Value) (W : World), (callFunc fn args).run Tryz.prog W = .ok (.enter fn args) W) (hcall : PieceCall s i fn (.opn t pos) st en) (h1 : e ≤ st) (h2 : st ≤ s.size) (h3 : en ≤ s.size) (hs : s.size ≤ 900000) (hn : xs.length ≤ 900000) (hno : ops.length ≤ 900000)
    (Q : Exit → Act → World → Prop)
    (hq : ∀ a' w' c lv' xs' ov', FrI bp s ov' last bt en a' → ISt NoB w0 w' bp { p with corner := c } s en lv' xs' (l ++ plainS s e st ++ [.opn t pos]) → OpsAt w0 w' ov' (ops ++ [⟨(l ++ plainS s e st).length, bra' t, pos⟩]) → Q (.exit 1) a' w')
    (a : Act) (ha : FrP bp s ov last bt i (some fn) a) : Code.wp Tryz.prog iCall Q a w := by
  have HQ := Lib.hid hq
  have HC := Lib.hid hcall
  have hE := eql_func_nil
  have hAO := as_open_yes
  clear hq hcall
  obtain ⟨v, rfl⟩ := ha
  unfold fnV
  conv => arg 2; whnf
  go_wp2_with fail
  have hc0 := HC.out bp _ w hS.at_
  refine hc0.mono ?_
  rintro e' w1 ⟨b, c, x, rfl, hm1, hp1, hx, hsr, hxm⟩
  obtain ⟨S1, _⟩ := hS.called hm1 hp1
  have hops1 := hops.keep hm1 (fun b cs T hb hx => hS.noint b cs T hb (Or.inl hx))
  have hz0 := hS.mods.size
  have HX := Lib.hid hx
  have HSR := Lib.hid hsr.new
  have HXM := Lib.hid hxm
  clear hS hops hm1 hp1 hx hsr hxm hc0
  unfold tyS
  go_wp2_with fail
  refine (S1.emit st h1 h2 (by omega) (by omega)).mono ?_
  rintro e' w2 ⟨rfl, lv2, xs2, hm2, S2⟩
  have hsr2 := HSR.out.emitted S1 hm2 HXM.out
  have hops2 := hops1.keep hm2 S1.noint
  have k9 := S2.at_.list
  have hl9 := S2.at_.lt
  have hlen2 := S2.src.len
  have hx2 : xs2.length ≤ 1000000 := by
    have a1 := S2.src.len
    have a2 := S1.src.len
    rw [List.length_append] at a1
    have : (plainS s e st).length ≤ 1 := by unfold plainS; split <;> simp
    omega
  have hlv2 : ∃ la lc, lv2 = .slice la xs2.length lc := by
    rcases S2.row.2 with ⟨h1, h2⟩ | ⟨g, cap, cur, h1, _⟩
    · exact ⟨none, 0, by rw [h1, h2]⟩
    · exact ⟨_, _, h1⟩
  obtain ⟨la, lc, rfl⟩ := hlv2
  have HSR2 := Lib.hid hsr2
  have HL2 := Lib.hid hlen2
  clear S1 hm2 hsr2 hops1 HSR hlen2
  go_wp2_with (at_builtin; refine ap_int rfl (.tmp 135) (.tmp 141) rfl ov ops.length (ops.map (fun o => .int .i64 (o.idx : Int))) rfl (ownsRow_keep hops2.row ((Mods.refl (fun _ => False) w2).alloc _) (fun _ _ x => x)) w2.heap.size 1 (xs2.length : Int) rfl ((Blk.newAt _ _ rfl).cell 0) (by omega) ?_)
  intro og oc w2' hrowo hgrowo hloco
  have S2' := S2.int hops2.row hops2.fresh hgrowo
  have hmo := grown_mods hgrowo
  have hSo : Same w2 (w2.alloc (.cells #[.int .i64 (xs2.length : Int)] 3)) := (Mods.refl _ w2).alloc _
  have hopsN : OpsAt w0 w2' (.slice (some ⟨og, 0, none⟩) (ops.length + 1) oc) (ops ++ [⟨(l ++ plainS s e st).length, bra' t, pos⟩]) := by
    refine ⟨?_, fun g hg => ?_⟩
    · have e1 : (ops ++ [(⟨(l ++ plainS s e st).length, bra' t, pos⟩ : OpE)]).length = ops.length + 1 := by simp
      rw [e1]
      have hL := HL2.out
      simp only [List.map_append, List.map_cons, List.map_nil]
      rw [hL]
      exact hrowo
    · cases hg
      rcases hloco with h | h
      · exact hops2.fresh og h
      · have h9 : og = w2.heap.size + 1 := by simpa using h
        have := S2.mods.size
        show w0.heap.size ≤ og
        omega
  have hX := HX.out
  have hxo : x = .opn t pos := by
    cases x with
    | fin u => cases hX
    | mk p => cases hX
    | opn u k => exact hX
  subst hxo
  have hsr3 : SrAt (fun b => ¬ (w.heap.size ≤ b ∧ b < w1.heap.size)) w2' (.opn t pos) (.iface 228 (.pointer (some ⟨b, 0, none⟩))) := by
    refine (SrAt.keep (d := .opn t pos) (HSR2.out) (hSo.mono (S' := fun k => ov.ownBlock = some k) (fun _ _ x => absurd x (fun x => x)) |>.then hmo (fun _ _ x => x)) (fun b cs T hb hT hx => ?_) (fun _ x => Or.inl x) (fun p hp => by cases hp))
    exfalso
    obtain ⟨cur, hc⟩ := row_blk hops2.row hx
    unfold Blk at hb hc
    rw [hb] at hc
    cases hc
    exact absurd hT (by decide)
  have k9 := S2'.at_.list
  have hl9 := S2'.at_.lt
  have HOP2 := Lib.hid hopsN
  have HSR3 := Lib.hid hsr3
  clear S2 hops2 hgrowo hrowo hloco hmo hSo hopsN hsr3 HSR2 hX HXM
  go_wp2_with (at_builtin; refine ap_inl rfl (.tmp 147) (.tmp 149) rfl (.slice la xs2.length lc) xs2.length xs2 rfl (S2'.row.alloc _) w2'.heap.size 1 _ (.pointer (some ⟨b, 0, none⟩)) rfl ((Blk.newAt _ _ rfl).cell 0) hx2 ?_)
  intro g cap w3 hown3 hgrow hloc
  obtain ⟨k9', f9', hl9', hm3, q3, hq3⟩ := S2'.push_at hgrow
  have S3 := S2'.push (.opn t pos) (.iface 228 (.pointer (some ⟨b, 0, none⟩))) hown3 hgrow (hloc.imp (fun x => x) (fun x => x.trans (by simp))) HSR3.out (fun q hq => by cases hq) (fun _ _ _ h => by cases h)
  have hops3 := HOP2.out.keep hm3 (fun b cs T hb hx => S2'.noint b cs T hb (Or.inr hx))
  have hm4 : Mods (fun k => k = bp) w3 (w3.setCell ⟨bp, 9, none⟩ (.slice (some ⟨g, 0, none⟩) (xs2.length + 1) cap)) := (Mods.refl (fun k => k = bp) w3).setCell (p := ⟨bp, 9, none⟩) (fun _ => rfl) _
  have hops4 := hops3.keep hm4 (fun b' cs T hb' hx' => by rw [ps_ty hq3 hb' hx']; decide)
  clear hgrow hloc hown3 k9 hl9 hm3 hops3 S2' HSR3 HOP2 hm4 hq3
  go_wp2_with fail
  generalize (World.setCell w3 _ _ : World) = w4 at S3 hops4 ⊢
  refine (skip_any bp _ _ _ S3.at_).mono ?_
  rintro e' w5 ⟨rfl, hm5, hp5⟩
  have S5 := S3.state (B' := NoB) (q := { p with corner := c }) (e' := en) hm5 hp5 (fun _ hb => absurd hb (fun x => x)) (fun _ hb => absurd hb (fun x => x))
  have hops5 := hops4.keep hm5 (fun b cs T hb hx => S3.noint b cs T hb (Or.inl hx))
  go_wp2_with fail
  exact HQ.out _ _ c _ _ _ ⟨(fun d => cond (Nat.ble 9 d && Nat.ble d 156) (cond (Nat.ble d 88) (cond (Nat.ble d 40) (cond (Nat.ble d 24) (List.getD [_, _, _, _, _, _, _, _, _, _, _, _, _, _, _, _] (d - 9) undef) (List.getD [_, _, _, _, _, _, _, _, _, _, _, _, _, _, _, _] (d - 25) undef)) (cond (Nat.ble d 56) (List.getD [_, _, _, _, _, _, _, _, _, _, _, _, _, _, _, _] (d - 41) undef) (cond (Nat.ble d 72) (List.getD [_, _, _, _, _, _, _, _, _, _, _, _, _, _, _, _] (d - 57) undef) (List.getD [_, _, _, _, _, _, _, _, _, _, _, _, _, _, _, _] (d - 73) undef)))) (cond (Nat.ble d 120) (cond (Nat.ble d 104) (List.getD [_, _, _, _, _, _, _, _, _, _, _, _, _, _, _, _] (d - 89) undef) (List.getD [_, _, _, _, _, _, _, _, _, _, _, _, _, _, _, _] (d - 105) undef)) (cond (Nat.ble d 136) (List.getD [_, _, _, _, _, _, _, _, _, _, _, _, _, _, _, _] (d - 121) undef) (cond (Nat.ble d 152) (List.getD [_, _, _, _, _, _, _, _, _, _, _, _, _, _, _, _] (d - 137) undef) (List.getD [_, _, _, _] (d - 153) undef))))) (v d)), rfl⟩ S5 hops5
end Go.Proofs.YtmmopoofheblbaaGreatDoor.T

/- emph on an empty list. -/
namespace Go.Proofs.YtmmopoofheblbaaGreatDoor.T
open Go Go.RowKit Go.Proofs

set_option maxRecDepth 100000 in
set_option maxHeartbeats 8000000 in
theorem emph_none (q : Value) (sa : Option Addr) (cap : Nat) (w : World) :
    Calls Tryz.prog 117 #[q, .slice none 0 0, .slice sa 0 cap] w fun e w' => e = .returned (.slice none 0 0) ∧ Same w w' := by
  go_enter Tryz.func117, Tryz.ntmps117
  go_wp2_with fail
  go_step3
  go_wp2_with fail
  go_step3
  go_wp2_with fail
  generalize hW : (World.alloc _ _ : World) = W
  have hS : Same w W := by subst hW; exact ((Mods.refl _ w).alloc _).alloc _
  have hD : Blk W w.heap.size #[.slice none 0 0] 84 := by subst hW; exact (Blk.newAt _ _ rfl).alloc _
  clear hW
  have k0 : W.cell? ⟨w.heap.size, 0, none⟩ = some (.slice none 0 0) := hD.cell 0
  have HS := Lib.hid hS
  clear hS hD
  refine wp_loop_rounds 1 ?_
  rw [rounds_succ]
  go_wp2_with fail
  rw [Exit.noGoto_ret]
  go_ret
  exact ⟨rfl, HS.out⟩
end Go.Proofs.YtmmopoofheblbaaGreatDoor.T

/- inline on any text: a closing bracket. -/
namespace Go.Proofs.YtmmopoofheblbaaGreatDoor.T
open Go Go.RowKit Go.Proofs

/-- parseLinkClose finds no link behind the bracket at i whose opener's text begins at pos. -/
def CloseNo (LK : World → PSt → Prop) (s : ByteArray) (i : Nat) (img : Bool) (pos : Nat) : Prop :=
  ∀ (bp ob : Nat) (q : PSt) (W : World), PsAt W bp q → LK W q → Blk W ob #[.string (bra img), .int .i64 (pos : Int)] 231 →
    Calls Tryz.prog 115 #[.pointer (some ⟨bp, 0, none⟩), .string s, .int .i64 i, .pointer (some ⟨ob, 0, none⟩)] W fun e w' => ∃ c, e = .returned (.tuple #[.pointer none, .int .i64 0, .bool false]) ∧ Mods (fun k => k = bp) W w' ∧ PsAt w' bp { q with corner := c }
/-- It finds this one. -/
def CloseYes (LK : World → PSt → Prop) (s : ByteArray) (i : Nat) (img : Bool) (pos : Nat) (url title : ByteArray) (tc : Nat) (cr : Bool) (en : Nat) : Prop :=
  ∀ (bp ob : Nat) (q : PSt) (W : World), PsAt W bp q → LK W q → Blk W ob #[.string (bra img), .int .i64 (pos : Int)] 231 →
    Calls Tryz.prog 115 #[.pointer (some ⟨bp, 0, none⟩), .string s, .int .i64 i, .pointer (some ⟨ob, 0, none⟩)] W fun e w' => ∃ c b, e = .returned (.tuple #[.pointer (some ⟨b, 0, none⟩), .int .i64 en, .bool true]) ∧ Mods (fun k => k = bp) W w' ∧ PsAt w' bp { q with corner := c } ∧
      W.heap.size ≤ b ∧ Blk w' b #[.slice none 0 0, .string url, .string title, .int .u8 (tc : Int), .bool cr] 114
/-- linkCorner answers. -/
def CornerOf (url : ByteArray) : Prop := ∀ W, Calls Tryz.prog 116 #[.string url] W fun e w' => SomeB e (fun _ => W = w')

set_option maxRecDepth 100000 in
set_option maxHeartbeats 8000000 in
/-- Nothing stands behind the bracket. -/
theorem d67_none (bp : Nat) (s : ByteArray) (ov : Value) (oi ob : Nat) (last : Nat) (bt : Bool) (i lb en lg lc : Nat) (w : World) (hn : oi ≤ 1000000) (hlc : oi + 1 ≤ lc) (hlc2 : lc ≤ maxLen) (k9 : w.cell? ⟨bp, 9, none⟩ = some (.slice (some ⟨lg, 0, none⟩) (oi + 1) lc)) (hlb : ∃ cs, Blk w lb cs 114 ∧ cs[0]? = some (.slice none 0 0)) (Q : Exit → Act → World → Prop)
    (h1 : ∀ a' w', FrL bp s ov last bt i oi ob (some ⟨lb, 0, none⟩) en true a' → Same w w' → Q .normal a' (w'.setCell ⟨lb, 0, none⟩ (.slice none 0 0)))
    (a : Act) (ha : FrL bp s ov last bt i oi ob (some ⟨lb, 0, none⟩) en true a) : Code.wp Tryz.prog (fst d67) Q a w := by
  have H1 := Lib.hid h1
  unfold maxLen at hlc2
  have c1 : IntKind.i64.wrap ((oi : Int) + 1) = (oi : Int) + 1 := IntWalk.i64_in _ (by omega)
  have c2 : (0 : Int) ≤ (oi : Int) + 1 := by omega
  have c5 : (oi : Int) + 1 ≤ lc := by omega
  have c7 : ((oi : Int) + 1).toNat = oi + 1 := by omega
  have HL := Lib.hid hlb
  clear h1 hlb
  obtain ⟨v, rfl⟩ := ha
  conv => arg 2; whnf
  by_cases hlo : lc = oi + 1
  · have c6 : (lc : Int) = (oi : Int) + 1 := by omega
    go_wp2_with fail
    refine (emph_none _ _ _ w).mono ?_
    rintro e w' ⟨rfl, hS⟩
    obtain ⟨cs, hB, h0⟩ := HL.out
    have l0 := ((hS.blk hB).cell 0).trans h0
    have l1 := (hS.blk hB).fr 0
    have l2 := (hS.blk hB).lt
    have HS := Lib.hid hS
    clear hS hB h0 k9
    go_wp2_with fail
    exact H1.out _ _ ⟨(fun d => cond (Nat.ble 233 d && Nat.ble d 244) (List.getD [_, _, _, _, _, _, _, _, _, _, _, _] (d - 233) undef) (v d)), rfl⟩ HS.out
  · have c6 : ¬ (lc : Int) = (oi : Int) + 1 := by omega
    have c8 : ¬ lc = oi + 1 := hlo
    go_wp2_with fail
    refine (emph_none _ _ _ w).mono ?_
    rintro e w' ⟨rfl, hS⟩
    obtain ⟨cs, hB, h0⟩ := HL.out
    have l0 := ((hS.blk hB).cell 0).trans h0
    have l1 := (hS.blk hB).fr 0
    have l2 := (hS.blk hB).lt
    have HS := Lib.hid hS
    clear hS hB h0 k9
    go_wp2_with fail
    exact H1.out _ _ ⟨(fun d => cond (Nat.ble 233 d && Nat.ble d 244) (List.getD [_, _, _, _, _, _, _, _, _, _, _, _] (d - 233) undef) (v d)), rfl⟩ HS.out

theorem row_shape {w : World} {e n : Nat} {v : Value} {xs : List Value} (h : w.ownsRow 0 e 1 v n xs) (hn : 0 < n) : ∃ g cap, v = .slice (some ⟨g, 0, none⟩) n cap ∧ n ≤ cap ∧ cap ≤ maxLen ∧ (∃ cur, Blk w g cur e ∧ cur.toList.take n = xs) := by
  rcases h.2 with ⟨_, h0⟩ | ⟨g, cap, cur, hv, _, hg, hc, hm, _, ht⟩
  · omega
  · simp only [Nat.mul_one] at ht
    exact ⟨g, cap, hv, hc, hm, cur, hg, ht⟩

/-- What is left to do when the list behind the bracket has been read. -/
theorem close_rest {B : Nat → Prop} {w0 w8 w9 : World} {bp : Nat} {p : PSt} {s : ByteArray} {e lg lc : Nat} {xs : List Value} {l : List Sr} (S8 : ISt B w0 w8 bp p s e (.slice (some ⟨lg, 0, none⟩) xs.length lc) xs l) (oi ob : Nat) (img : Bool) (pos : Nat) (hi : l[oi]? = some (.opn (bra img) (pos : Int)))
    (url title : ByteArray) (tc : Nat) (cr : Bool) (lb : Nat) (hlb : B lb) (hlb0 : w0.heap.size ≤ lb) (hm9 : Mods (fun b => b ∈ liveS (l.drop (oi + 1))) w8 w9)
    (ga : Option Addr) (gn gc : Nat) (ys : List Value) (hg : w9.ownsRow 0 157 1 (.slice ga gn gc) gn ys) (hgn : ∀ g, (Value.slice ga gn gc).ownBlock = some g → w8.heap.size ≤ g)
    (hkids : InlsAt (fun b => (lg = b ∨ B b) ∨ b ∈ liveS (l.take oi)) w9 (emphM (l.drop (oi + 1))) ys)
    (hLb8 : Blk w8 lb #[.slice none 0 0, .string url, .string title, .int .u8 (tc : Int), .bool cr] 114) (hob8 : Blk w8 ob #[.string (bra img), .int .i64 (pos : Int)] 231)
    (ov : Value) (ops : List OpE) (hops : OpsAt w0 w8 ov ops) (last : Nat) (bt : Bool) (i en : Nat) (hn : xs.length ≤ 1000000) (Q : Exit → Act → World → Prop)
    (hq : ∀ a' w' lv' xs', FrI bp s ov (if img then last else pos) bt en a' → ISt NoB w0 w' bp p s en lv' xs' (l.take oi ++ [.fin (linkI img url title tc cr (emphM (l.drop (oi + 1))))]) → OpsAt w0 w' ov ops → Q (.exit 1) a' w')
    (a : Act) (ha : FrL bp s ov last bt i oi ob (some ⟨lb, 0, none⟩) en true a) :
    Code.wp Tryz.prog (.seq (fst d68) (.seq (fst d71) (.seq (fst d72) (.seq (fst d73) (.seq (fst d74) (.exit 1)))))) Q a (w9.setCell ⟨lb, 0, none⟩ (.slice ga gn gc)) := by
  have hlen := S8.src.len
  have hol := (List.getElem?_eq_some_iff.1 hi).1
  obtain ⟨_, lc', he, hlc, hlcm, curl, hlg8, _⟩ := row_shape S8.row (by omega)
  cases he
  have hlive := S8.src.live_lt
  have hldrop : ∀ b, b ∈ liveS (l.drop (oi + 1)) → b ∈ liveS l := fun b hb => by rw [liveS_split hi]; exact List.mem_append_right _ hb
  have hltake : ∀ b, b ∈ liveS (l.take oi) → b ∈ liveS l := fun b hb => by rw [liveS_split hi]; exact List.mem_append_left _ hb
  have hne : ∀ b cs T, Blk w8 b cs T → T ≠ 268 → ¬ b ∈ liveS (l.drop (oi + 1)) := by
    intro b cs T hb hT hx
    obtain ⟨_, cs', hb'⟩ := hlive b (hldrop b hx)
    exact hb.ne_of_type hb' hT rfl
  obtain ⟨tail8, hbp8⟩ := id S8.at_
  have hbp9 := S8.at_.keep hm9 (hne _ _ _ hbp8 (by decide))
  have hLb9 := hLb8.keep hm9 (hne _ _ _ hLb8 (by decide))
  have hob9 := hob8.keep hm9 (hne _ _ _ hob8 (by decide))
  have hrow9 := ownsRow_keep S8.row hm9 (fun g hg => by cases hg; exact hne _ _ _ hlg8 (by decide))
  have e1 : lb ≠ bp := fun e => S8.nb (e ▸ hlb)
  have e2 : lb ≠ lg := fun e => (S8.fresh lg rfl).2 (e ▸ hlb)
  have e3 : ob ≠ bp := hob8.ne_of_type hbp8 (by decide)
  have e4 : ob ≠ lg := hob8.ne_of_type hlg8 (by decide)
  have e5 : ob ≠ lb := hob8.ne_of_type hLb8 (by decide)
  have e6 : lg ≠ bp := hlg8.ne_of_type hbp8 (by decide)
  -- the node's list
  have hm0 : Mods (fun b => b = lb) w9 (w9.setCell ⟨lb, 0, none⟩ (.slice ga gn gc)) := (Mods.refl (fun b => b = lb) w9).setCell (p := ⟨lb, 0, none⟩) (fun _ => rfl) _
  have hLbX : Blk (w9.setCell ⟨lb, 0, none⟩ (.slice ga gn gc)) lb #[.slice ga gn gc, .string url, .string title, .int .u8 (tc : Int), .bool cr] 114 := hLb9.set_same 0 _
  have hbpX := hbp9.keep hm0 (fun e => e1 e.symm)
  have hobX := hob9.keep hm0 e5
  have hrowX := ownsRow_keep hrow9 hm0 (fun g hg => by cases hg; exact fun e => e2 e.symm)
  generalize (w9.setCell ⟨lb, 0, none⟩ (.slice ga gn gc) : World) = wx at hm0 hLbX hbpX hobX hrowX ⊢
  obtain ⟨_, _, he, ⟨curx, hcx⟩, hfx, hcellx⟩ := ownsRow_form hrowX (by omega)
  cases he
  obtain ⟨u, hu⟩ : ∃ u, xs[oi]? = some u := ⟨_, List.getElem?_eq_getElem (by omega)⟩
  refine wp_seq (d68t bp s ov oi ob img pos last bt i lb en lg xs.length lc wx hn (by omega) hbpX.list hobX u (hcellx oi u hu) (hcx.fr oi) hcx.lt _ (fun a1 ha1 => ?_) a ha)
  generalize hty : (if img then 210 else 112) = ty
  have hm1 : Mods (fun b => b = lg) wx (wx.setCell ⟨lg, oi, none⟩ (.iface ty (.pointer (some ⟨lb, 0, none⟩)))) := (Mods.refl (fun b => b = lg) wx).setCell (p := ⟨lg, oi, none⟩) (fun _ => rfl) _
  have hbp1 := hbpX.keep hm1 (fun e => e6 e.symm)
  have hLb1 := hLbX.keep hm1 e2
  have hob1 := hobX.keep hm1 e4
  have hrow1 := ownsRow_set hrowX oi (.iface ty (.pointer (some ⟨lb, 0, none⟩))) (by omega)
  generalize (wx.setCell ⟨lg, oi, none⟩ (.iface ty (.pointer (some ⟨lb, 0, none⟩))) : World) = w1 at hm1 hbp1 hLb1 hob1 hrow1 ⊢
  refine wp_seq (d71t bp s ov oi ob last bt i lb en lg xs.length lc w1 hn (by omega) hlc hbp1.list (hbp1.fr 9) hbp1.lt _ (fun a2 ha2 => ?_) a1 ha1)
  have hm2 : Mods (fun b => b = bp) w1 (w1.setCell ⟨bp, 9, none⟩ (.slice (some ⟨lg, 0, none⟩) (oi + 1) lc)) := (Mods.refl (fun b => b = bp) w1).setCell (p := ⟨bp, 9, none⟩) (fun _ => rfl) _
  have hbp2 := hbp1.set 9 (.slice (some ⟨lg, 0, none⟩) (oi + 1) lc) { ({ p with s := s, list := .slice (some ⟨lg, 0, none⟩) xs.length lc, emitted := ((e : Nat) : Int) } : PSt) with list := .slice (some ⟨lg, 0, none⟩) (oi + 1) lc } rfl (by decide)
  generalize (w1.setCell ⟨bp, 9, none⟩ (.slice (some ⟨lg, 0, none⟩) (oi + 1) lc) : World) = w2 at hm2 hbp2 ⊢
  refine wp_seq (d72t bp s ov oi ob last bt i _ en w2 _ ((skip_any bp _ _ _ hbp2).mono (fun _ _ h => h)) _ (fun a3 w3 ha3 hR => ?_) a2 ha2)
  obtain ⟨hm3, hbp3⟩ := hR
  have hmB : Mods (fun b => b = bp) w1 w3 := hm2.then hm3 (fun _ _ x => x)
  have hob3 := hob1.keep hmB e3
  have hLb3 := hLb1.keep hmB e1
  have hrow3 := ownsRow_keep hrow1 hmB (fun g hg => by cases hg; exact e6)
  refine wp_seq (d73t bp s ov oi ob last bt i _ en w3 _ (fun a4 ha4 => ?_) a3 ha3)
  refine wp_seq (d74t bp s ov oi ob pos img last bt en _ en w3 hob3 _ (fun a5 ha5 => ?_) a4 ha4)
  refine wp_exit ?_
  have hm93 : Mods (fun b => b = lb ∨ b = lg ∨ b = bp) w9 w3 :=
    ((hm0.mono (S' := fun b => b = lb ∨ b = lg ∨ b = bp) (fun _ _ x => Or.inl x)).then hm1 (fun _ _ x => Or.inr (Or.inl x))).then hmB (fun _ _ x => Or.inr (Or.inr x))
  have hm83 : Mods (fun b => b ∈ liveS (l.drop (oi + 1)) ∨ b = lb ∨ b = lg ∨ b = bp) w8 w3 :=
    (hm9.mono (S' := fun b => b ∈ liveS (l.drop (oi + 1)) ∨ b = lb ∨ b = lg ∨ b = bp) (fun _ _ x => Or.inl x)).then hm93 (fun _ _ x => Or.inr x)
  have hrowc := row_take hrow3 (k := oi + 1) (by omega) (by omega)
  rw [List.take_succ_eq_append_getElem (by simp; omega), List.take_set, List.set_eq_of_length_le (by simp; omega)] at hrowc
  simp only [List.getElem_set_self] at hrowc
  have hgd : ∀ g, (Value.slice ga gn gc).ownBlock = some g → ¬ (g = lb ∨ g = lg ∨ g = bp) := by
    intro g hgg hx
    have h1 := hgn g hgg
    rcases hx with hx | hx | hx
    · have := hLb8.lt; omega
    · have := hlg8.lt; omega
    · have := S8.at_.lt; omega
  have hnode : InlAt (fun b => lg = b ∨ b ∈ liveS (l.take oi)) w3 (linkI img url title tc cr (emphM (l.drop (oi + 1)))) (.iface ty (.pointer (some ⟨lb, 0, none⟩))) := by
    subst hty
    unfold linkI
    simp only [InlAt]
    refine ⟨lb, 114, .slice ga gn gc, gn, ys, rfl, hLb3, ?_, by decide, ownsRow_keep hg hm93 hgd, ?_, ?_⟩
    · rintro (h | h)
      · exact e2 h.symm
      · exact S8.src.out _ (hltake _ h) (Or.inr hlb)
    · rintro g hgg (h | h)
      · exact hgd g hgg (Or.inr (Or.inl h.symm))
      · have h1 := hgn g hgg
        have h2 := (hlive g (hltake g h)).1
        omega
    · refine InlsAt.keep hm93 (fun b cs T hb hT hx => ?_) (fun b hb => Or.inl ?_) _ _ hkids
      · rcases hx with hx | hx | hx
        · subst hx
          exact Or.inl (Or.inr hlb)
        · subst hx
          exact Or.inl (Or.inl rfl)
        · have := ps_ty hbp9 hb hx
          rw [this] at hT
          exact absurd hT (by decide)
      · rcases hb with hb | hb
        · exact Or.inl (Or.inl hb)
        · exact Or.inr hb
  refine hq _ w3 _ _ ha5 (S8.close (en := en) (q := p) oi (bra img) pos hi lb hlb hlb0 _ ty ?_ ?_ ?_ hm83 hbp3 hrowc hnode) (hops.keep hm83 (fun b cs T hb hx => ?_))
  · subst hty
    rfl
  · subst hty
    cases img <;> decide
  · subst hty
    cases img <;> decide
  · rcases hx with hx | hx | hx | hx
    · obtain ⟨_, cs', hb'⟩ := hlive b (hldrop b hx)
      intro hT
      exact hb.ne_of_type hb' (by rw [hT]; decide) rfl
    · subst hx
      intro hT
      exact hb.ne_of_type hLb8 (by rw [hT]; decide) rfl
    · subst hx
      intro hT
      exact hb.ne_of_type hlg8 (by rw [hT]; decide) rfl
    · intro hT
      have := ps_ty S8.at_ hb hx
      rw [this] at hT
      exact absurd hT (by decide)

/-- A closing bracket behind an opener at place o.idx of the list. -/
theorem bracket {w0 w : World} {bp : Nat} {p : PSt} {s : ByteArray} {e : Nat} {lv : Value} {xs : List Value} {l : List Sr} (hS : ISt NoB w0 w bp p s e lv xs l) (ov : Value) (ops : List OpE) (o : OpE) (hops : OpsAt w0 w ov (ops ++ [o])) (hlo : l[o.idx]? = some (.opn (bra o.img) (o.pos : Int)))
    (LK : World → PSt → Prop) (hLK : ∀ W q, Mods (fun k => k = bp) w0 W → q.links = p.links → LK W q) (last : Nat) (bt : Bool) (i : Nat) (hi : i < s.size) (hc : s[i] = 93) (hei : e ≤ i) (hs : s.size ≤ 900000) (hn : xs.length ≤ 900000) (hno : ops.length ≤ 900000)
    (r : Option (ByteArray × ByteArray × Nat × Bool × Nat)) (hrN : (o.img || decide (last ≤ o.pos)) = true → r = none → CloseNo LK s i o.img o.pos)
    (hrY : ∀ url title tc cr en, r = some (url, title, tc, cr, en) → (o.img || decide (last ≤ o.pos)) = true ∧ CloseYes LK s i o.img o.pos url title tc cr en ∧ CornerOf url ∧ en ≤ s.size)
    (Q : Exit → Act → World → Prop)
    (hqN : r = none → ∀ a' w' c ov', FrI bp s ov' last bt i a' → ISt NoB w0 w' bp { p with corner := c } s e lv xs l → OpsAt w0 w' ov' ops → Q .normal a' w')
    (hqY : ∀ url title tc cr en, r = some (url, title, tc, cr, en) → ∀ a' w' c ov' lv' xs', FrI bp s ov' (if o.img then last else o.pos) bt en a' →
      ISt NoB w0 w' bp { p with corner := c } s en lv' xs' ((l ++ plainS s e i).take o.idx ++ [.fin (linkI o.img url title tc cr (emphM ((l ++ plainS s e i).drop (o.idx + 1))))]) → OpsAt w0 w' ov' ops → Q (.exit 1) a' w')
    (a : Act) (ha : FrI bp s ov last bt i a) : Code.wp Tryz.prog iClose Q a w := by
  have hlen := hS.src.len
  have hol := (List.getElem?_eq_some_iff.1 hlo).1
  obtain ⟨lg, lc, rfl, hlc, hlcm, curl, hlg, hcurl⟩ := row_shape hS.row (by omega)
  have hor := hops.row
  have eol : (ops ++ [o]).length = ops.length + 1 := by simp
  rw [eol] at hor
  obtain ⟨og, oc, rfl, hoc, _, curo, hog, hcuro⟩ := row_shape hor (by omega)
  have hoc0 : w.cell? ⟨og, ops.length, none⟩ = some (.int .i64 (o.idx : Int)) := by
    rw [hog.cell]
    have h1 : ((ops ++ [o]).map (fun o => Value.int .i64 (o.idx : Int)))[ops.length]? = some (.int .i64 (o.idx : Int)) := by simp
    rw [← hcuro, List.getElem?_take_of_lt (by omega)] at h1
    simpa using h1
  obtain ⟨u, hu⟩ : ∃ u, xs[o.idx]? = some u := ⟨_, List.getElem?_eq_getElem (by omega)⟩
  obtain ⟨ob, rfl, hob, hobA⟩ := hS.src.at_ o.idx _ u hlo hu
  have hlcell : w.cell? ⟨lg, o.idx, none⟩ = some (.iface 228 (.pointer (some ⟨ob, 0, none⟩))) := by
    rw [hlg.cell]
    rw [← hcurl, List.getElem?_take_of_lt (by omega)] at hu
    simpa using hu
  -- the brackets without the last one
  have hops' : OpsAt w0 w (.slice (some ⟨og, 0, none⟩) ops.length oc) ops := by
    refine ⟨?_, hops.fresh⟩
    have := row_take hor (k := ops.length) (by omega) (by omega)
    rw [List.map_append, List.take_left' (by simp)] at this
    exact this
  rw [iClose_sq]
  refine wp_seq (d58_yes bp s (some ⟨og, 0, none⟩) (ops.length + 1) oc last bt i w hi (by omega) hc _ (fun a1 ha1 he1 => ?_) a ha)
  refine wp_cond he1 ?_
  have hd1 : decide (0 < ops.length + 1) = true := by simp
  rw [hd1, if_pos rfl]
  refine wp_seq (d59 bp s og ops.length oc o.idx last bt i w (by omega) hoc0 _ (fun a2 ha2 => ?_) a1 ha1)
  refine wp_seq (d60 bp s _ o.idx ob lg xs.length lc last bt i w (by omega) hS.at_.list (by omega) hlcell _ (fun a3 ha3 => ?_) a2 ha2)
  refine wp_seq (d61 bp s og ops.length oc o.idx ob last bt i w (by omega) (by omega) _ (fun a4 ha4 => ?_) a3 ha3)
  refine wp_seq (d62t bp s _ o.idx ob o.pos o.img last bt i w hob _ (fun a5 ha5 he5 => ?_) a4 ha4)
  refine wp_cond he5 ?_
  cases hgo : (o.img || decide (last ≤ o.pos)) with
  | false =>
    have hr0 : r = none := by
      cases hr : r with
      | none => rfl
      | some x =>
        obtain ⟨url, title, tc, cr, en⟩ := x
        have := (hrY url title tc cr en hr).1
        rw [hgo] at this
        cases this
    refine wp_skip (hqN hr0 a5 w p.corner _ ha5.fri ?_ hops')
    exact hS
  | true =>
    rw [if_pos rfl]
    have hLKw : LK w { p with s := s, list := .slice (some ⟨lg, 0, none⟩) xs.length lc, emitted := ((e : Nat) : Int) } := hLK _ _ hS.mods rfl
    cases hr : r with
    | none =>
      refine wp_seq (d63 bp s _ o.idx ob last bt i w (fun w' xa en ok => xa = none ∧ en = 0 ∧ ok = false ∧ ∃ c, Mods (fun k => k = bp) w w' ∧ PsAt w' bp { ({ p with s := s, list := .slice (some ⟨lg, 0, none⟩) xs.length lc, emitted := ((e : Nat) : Int) } : PSt) with corner := c })
        ((hrN hgo hr bp ob _ w hS.at_ hLKw hob).mono (by rintro e' w' ⟨c, rfl, h1, h2⟩; exact ⟨none, 0, false, rfl, rfl, rfl, rfl, c, h1, h2⟩)) _ (fun a6 w6 xa en ok ha6 hR => ?_) a5 ha5)
      obtain ⟨rfl, rfl, rfl, c, hm6, hp6⟩ := hR
      refine wp_seq (d64t bp s _ o.idx ob last bt i none 0 false w6 _ (fun a7 ha7 he7 => ?_) a6 ha6)
      refine wp_cond he7 (wp_skip ?_)
      obtain ⟨_, S6⟩ := hS.called hm6 hp6
      exact hqN hr a7 w6 c _ ha7.fri S6 (hops'.keep hm6 (fun b cs T hb hx => hS.noint b cs T hb (Or.inl hx)))
    | some x =>
      obtain ⟨url, title, tc, cr, en⟩ := x
      obtain ⟨_, hY, hLC, hen⟩ := hrY url title tc cr en hr
      refine wp_seq (d63 bp s _ o.idx ob last bt i w (fun w' xa en' ok => ∃ c b, xa = some ⟨b, 0, none⟩ ∧ en' = en ∧ ok = true ∧ Mods (fun k => k = bp) w w' ∧ PsAt w' bp { ({ p with s := s, list := .slice (some ⟨lg, 0, none⟩) xs.length lc, emitted := ((e : Nat) : Int) } : PSt) with corner := c } ∧ w.heap.size ≤ b ∧ Blk w' b #[.slice none 0 0, .string url, .string title, .int .u8 (tc : Int), .bool cr] 114)
        ((hY bp ob _ w hS.at_ hLKw hob).mono (by rintro e' w' ⟨c, b, rfl, h1, h2, h3, h4⟩; exact ⟨_, en, true, rfl, c, b, rfl, rfl, rfl, h1, h2, h3, h4⟩)) _ (fun a6 w6 xa en' ok ha6 hR => ?_) a5 ha5)
      obtain ⟨c6, lb, rfl, rfl, rfl, hm6, hp6, hlb6, hLb6⟩ := hR
      refine wp_seq (d64t bp s _ o.idx ob last bt i _ en' true w6 _ (fun a7 ha7 he7 => ?_) a6 ha6)
      refine wp_cond he7 ?_
      rw [if_pos rfl]
      rw [dCL3_sq]
      have hlbw : lb ≠ bp := fun e => by have := hS.at_.lt; omega
      refine wp_seq (d65 bp s _ o.idx ob last bt i lb en' url cr _ w6 hp6 (hLb6.cell 1) (hLb6.cell 4) (hLC w6) _ (fun a8 c8 ha8 => ?_) a7 ha7)
      have hp7 := hp6.set 6 (.bool c8) { ({ p with s := s, list := .slice (some ⟨lg, 0, none⟩) xs.length lc, emitted := ((e : Nat) : Int) } : PSt) with corner := c8 } rfl (by decide)
      have hm7 : Mods (fun k => k = bp) w6 (w6.setCell ⟨bp, 6, none⟩ (.bool c8)) := (Mods.refl (fun k => k = bp) w6).setCell (p := ⟨bp, 6, none⟩) (fun _ => rfl) _
      have hLb7 := hLb6.keep hm7 hlbw
      generalize (w6.setCell ⟨bp, 6, none⟩ (.bool c8) : World) = w7 at hp7 hm7 hLb7 ⊢
      have hm67 : Mods (fun k => k = bp) w w7 := hm6.then hm7 (fun _ _ x => x)
      have hlb7 := hLb7.lt
      have hob7 := hob.keep hm67 (fun e => by have := ps_ty hS.at_ hob e; exact absurd this (by decide))
      obtain ⟨S7, _⟩ := hS.called hm67 hp7
      have hops7 := hops'.keep hm67 (fun b cs T hb hx => hS.noint b cs T hb (Or.inl hx))
      refine wp_seq (d66t bp s _ o.idx ob last bt i _ en' w7 _ ((S7.emit i hei (by omega) (by omega) (by omega)).mono (fun _ _ h => h)) _ (fun a9 w8 ha9 hR => ?_) a8 ha8)
      obtain ⟨lv2, xs2, hm8, S8⟩ := hR
      have hlen2 := S8.src.len
      have hlo2 : (l ++ plainS s e i)[o.idx]? = some (.opn (bra o.img) (o.pos : Int)) := by
        rw [List.getElem?_append_left hol]
        exact hlo
      have hol2 := (List.getElem?_eq_some_iff.1 hlo2).1
      have hx2 : xs2.length ≤ 900001 := by
        rw [List.length_append] at hlen2
        have : (plainS s e i).length ≤ 1 := by unfold plainS; split <;> simp
        omega
      have hops8 := hops7.keep hm8 S7.noint
      have hX8 : ∀ b, (b = bp ∨ (Value.slice (some ⟨lg, 0, none⟩) xs.length lc).ownBlock = some b) → ¬ (b = lb) := by
        rintro b (hx | hx) e
        · exact hlbw (e ▸ hx)
        · exact (S7.fresh b hx).2 ⟨by omega, by omega⟩
      have hLb8 := hLb7.keep hm8 (fun hx => hX8 _ hx rfl)
      have hob8 := hob7.keep hm8 (by
        rintro (hx | hx)
        · have := ps_ty S7.at_ hob7 hx
          exact absurd this (by decide)
        · obtain ⟨cur, hc⟩ := row_blk S7.row hx
          exact hc.ne_of_type hob7 (by decide) rfl)
      obtain ⟨lg2, lc2, rfl, hlc2, hlcm2, curl2, hlg2, hcurl2⟩ := row_shape S8.row (by omega)
      have hw0 := hS.mods.size
      have hB : w.heap.size ≤ lb ∧ lb < w7.heap.size := ⟨hlb6, hlb7⟩
      by_cases hlast : xs2.length = o.idx + 1
      · have hdr : (l ++ plainS s e i).drop (o.idx + 1) = [] := List.drop_eq_nil_of_le (by omega)
        refine wp_seq (d67_none bp s _ o.idx ob last bt i lb en' lg2 lc2 w8 (by omega) (by omega) hlcm2 (by rw [← hlast]; exact S8.at_.list) ⟨_, hLb8, rfl⟩ _ (fun a10 w9 ha10 hS9 => ?_) a9 ha9)
        refine close_rest S8 o.idx ob o.img o.pos hlo2 url title tc cr lb hB (by omega) (hS9.mono (fun _ _ x => absurd x (fun x => x))) none 0 0 [] ⟨rfl, Or.inl ⟨rfl, rfl⟩⟩ (fun g hg => by cases hg) ?_ hLb8 hob8 _ ops hops8 last bt i en' (by omega) Q ?_ a10 ha10
        · rw [hdr]
          simp only [emphM, emDst, List.foldl_nil, List.map_nil, InlsAt]
        · intro a' w' lv' xs' h1 h2 h3
          exact hqY url title tc cr en' hr a' w' c8 _ lv' xs' h1 h2 h3
      · have hbe := S8.src.behind o.idx _ _ hlo2
        refine wp_seq (d67_some bp s _ o.idx ob last bt i lb en' lg2 xs2.length lc2 w8 (by omega) hlc2 hlcm2 (by omega) S8.at_.list
          (fun w9 ga gn gc => ∃ ys, Mods (fun b => b ∈ liveS ((l ++ plainS s e i).drop (o.idx + 1))) w8 w9 ∧ w9.ownsRow 0 157 1 (.slice ga gn gc) gn ys ∧ (∀ g, (Value.slice ga gn gc).ownBlock = some g → w8.heap.size ≤ g) ∧ InlsAt (fun b => (lg2 = b ∨ (w.heap.size ≤ b ∧ b < w7.heap.size)) ∨ b ∈ liveS ((l ++ plainS s e i).take o.idx)) w9 (emphM ((l ++ plainS s e i).drop (o.idx + 1))) ys)
          ((emph_any (fun b => (lg2 = b ∨ (w.heap.size ≤ b ∧ b < w7.heap.size)) ∨ b ∈ liveS ((l ++ plainS s e i).take o.idx)) w8 false lg2 (o.idx + 1) (lc2 - (o.idx + 1)) (xs2.length - (o.idx + 1)) (lc2 - (o.idx + 1)) (xs2.drop (o.idx + 1)) ((l ++ plainS s e i).drop (o.idx + 1)) (.pointer (some ⟨bp, 0, none⟩)) none 0
            (by rw [List.length_drop]; omega) (by omega) (by omega) ?_ ?_ (Or.inr ⟨rfl, rfl, rfl⟩)).mono ?_) _ (fun a10 w9 ga gn gc ha10 hR => ?_) a9 ha9)
        · refine ⟨hbe.len, fun j t x h1 h2 => (hbe.at_ j t x h1 h2).keep (Mods.refl (fun _ => False) w8) (fun _ _ _ _ _ x => absurd x (fun x => x)) ?_ (fun _ _ x => x), hbe.nodup, fun m hmm ha => hbe.out m hmm ?_, fun b hb => hbe.a0 b ?_, hbe.adj⟩
          · rintro b ((hb | hb) | hb)
            · refine Or.inl (Or.inl ?_)
              rcases hb with (rfl | hb) | hb
              · exact Or.inl (Or.inl rfl)
              · exact Or.inl (Or.inr hb)
              · exact Or.inr hb
            · exact absurd hb.1 (by decide)
            · exact Or.inl (Or.inr hb)
          · rcases ha with ((rfl | hb) | hb) | hb
            · exact Or.inl (Or.inl rfl)
            · exact Or.inl (Or.inr hb)
            · exact Or.inr hb
            · exact absurd hb.1 (by decide)
          · rcases hb with ((rfl | hb) | hb) | hb
            · exact Or.inl (Or.inl rfl)
            · exact Or.inl (Or.inr hb)
            · exact Or.inr hb
            · exact absurd hb.1 (by decide)
        · refine ⟨by rw [List.length_drop], ⟨rfl, Or.inl ⟨rfl, rfl⟩⟩, fun h => (by cases h), fun _ => ⟨⟨curl2, hlg2, fun j hj => ?_⟩, fun h => by cases h⟩⟩
          have h9 : (curl2.toList.take xs2.length)[o.idx + 1 + j]? = xs2[o.idx + 1 + j]? := by rw [hcurl2]
          rw [List.getElem?_take_of_lt (by omega)] at h9
          rw [List.getElem?_drop, ← h9]
          simp
        · rintro e' w9 ⟨g, dc, ys, rfl, h1, h2, h3, h4, h5, h6⟩
          have h4' : Mods (fun b => b ∈ liveS ((l ++ plainS s e i).drop (o.idx + 1))) w8 w9 := h4.mono (fun _ _ x => x.elim (fun x => x) (fun x => absurd x.1 (by decide)))
          refine ⟨_, _, _, rfl, ⟨_, hLb8.keep h4' (fun hx => ?_), rfl⟩, ys, h4', h5, fun g' hg' => ?_, h6.mono (fun b hb => Or.inl (Or.inl hb))⟩
          · obtain ⟨_, cs', hb'⟩ := S8.src.live_lt lb (by rw [liveS_split hlo2]; exact List.mem_append_right _ hx)
            exact hLb8.ne_of_type hb' (by decide) rfl
          · cases hg'
            exact h3.elim (fun x => absurd x.1 (by decide)) (fun x => x)
        · obtain ⟨ys, h1, h2, h3, h4⟩ := hR
          refine close_rest S8 o.idx ob o.img o.pos hlo2 url title tc cr lb hB (by omega) h1 ga gn gc ys h2 h3 h4 hLb8 hob8 _ ops hops8 last bt i en' (by omega) Q ?_ a10 ha10
          intro a' w' lv' xs' h1 h2 h3
          exact hqY url title tc cr en' hr a' w' c8 _ lv' xs' h1 h2 h3
end Go.Proofs.YtmmopoofheblbaaGreatDoor.T
