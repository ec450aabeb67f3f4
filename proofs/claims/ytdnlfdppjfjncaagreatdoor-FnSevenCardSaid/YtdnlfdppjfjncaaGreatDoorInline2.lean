/- inline on a text of plain bytes and escaped signs: the walk. -/
import Derived.Test.YtdnlfdppjfjncaaGreatDoorEmph
import Derived.Deep.RegionWith
namespace Go.Proofs.YtdnlfdppjfjncaaGreatDoor
open Go Go.RowKit Go.Proofs

theorem NoPP.nil : NoPP [] := fun i s t h => by cases i <;> cases h
theorem NoPP.one (p : Pc) : NoPP [p] := fun i s t _ h => by cases i <;> cases h
theorem NoPP.esc {ps : List Pc} {s : ByteArray} (h : NoPP ps) : NoPP (.esc s :: ps) := fun i a b h1 h2 => by
  cases i with
  | zero => cases h1
  | succ i => exact h i a b h1 h2
theorem NoPP.plain {ps : List Pc} {s t : ByteArray} (h : NoPP (.esc t :: ps)) : NoPP (.plain s :: .esc t :: ps) := fun i a b h1 h2 => by
  cases i with
  | zero => cases h2
  | succ i => exact h i a b h1 h2

theorem scan_alt (s : ByteArray) (k e : Nat) : NoPP (scan s k e) := by
  rw [scan]
  split
  · split
    · have h := scan_alt s (k + 2) (k + 2)
      split
      · exact NoPP.plain (NoPP.esc h)
      · exact NoPP.esc h
    · exact scan_alt s (k + 1) e
  · split
    · exact NoPP.one _
    · exact NoPP.nil
termination_by s.size - k

theorem scan_ne (s : ByteArray) (k e : Nat) (he : e ≤ k) (hk : k ≤ s.size) (h : e < s.size) : scan s k e ≠ [] := by
  rw [scan]
  split
  · split
    · simp
    · exact scan_ne s (k + 1) e (by omega) (by omega) h
  · rw [if_pos (by omega)]
    simp
termination_by s.size - k

theorem Held.again {w0 w w' : World} {bp : Nat} {p : PSt} {s : ByteArray} {e n : Nat} {lv : Value} {xs : List Value} {pcs : List Pc} (h : Held w0 w bp p s e n lv xs pcs) (hm : Same w w') :
    Held w0 (w'.setCell ⟨bp, 9, none⟩ lv) bp p s e n lv xs pcs :=
  (h.same hm).skipped ((Mods.refl (fun k => k = bp) w').setCell (p := ⟨bp, 9, none⟩) (fun _ => rfl) _) (((h.same hm).at_).set 9 _ _ rfl (by decide))

set_option maxRecDepth 100000 in
set_option maxHeartbeats 8000000 in
theorem inline_any (bp : Nat) (p : PSt) (s : ByteArray) (w : World) (hp : PsAt w bp p) (hs : s.size ≤ 900000) (h0 : 0 < s.size) (hg : Escd s 0) (hO : Opt w p 3 false) (hpb : p.parser ≠ bp)
    (hT : Calls Tryz.prog 74 #[.string s] w fun e w' => e = .returned (.string s) ∧ w = w') :
    Calls Tryz.prog 66 #[.pointer (some ⟨bp, 0, none⟩), .string s] w fun e w' => ∃ g n cap xs, e = .returned (.slice (some ⟨g, 0, none⟩) n cap) ∧ 0 < n ∧ n ≤ s.size + 1 ∧ Held w w' bp p s s.size n (.slice (some ⟨g, 0, none⟩) n cap) xs (scan s 0 0) := by
  have hl := hp.lt
  have f7 := hp.fr 7
  have f8 := hp.fr 8
  have f9 := hp.fr 9
  have k7 := hp.s
  have k8 := hp.emitted
  have k9 := hp.list
  go_enter Tryz.func66, Tryz.ntmps66
  go_wp2_with fail
  refine hT.mono ?_
  rintro e w' ⟨rfl, rfl⟩
  go_wp2_with fail
  generalize hW : (World.setCell _ _ _ : World) = W
  have hG : Going w W bp p s 0 := by
    subst hW
    refine ⟨hg, Nat.zero_le _, 0, 0, .slice none 0 0, [], [], Nat.le_refl _, Nat.le_refl _, ⟨?_, ?_, ⟨rfl, Or.inl ⟨rfl, rfl⟩⟩, trivial, (fun _ h => by cases h)⟩, rfl⟩
    · exact (((Mods.refl (fun b => b = bp) w).setCell (p := ⟨bp, 7, none⟩) (fun _ => rfl) _).setCell (p := ⟨bp, 9, none⟩) (fun _ => rfl) _).setCell (p := ⟨bp, 8, none⟩) (fun _ => rfl) _
    · exact ((hp.set 7 _ { p with s := s } rfl (by decide)).set 9 _ { p with s := s, list := .slice none 0 0 } rfl (by decide)).set 8 _ _ rfl (by decide)
  clear hW hT hg f7 f8 f9 k7 k8 k9 hl
  refine wp_loop_ghost_k (fun m a wr => ∃ (k : Nat) (v : Nat → Value), (m = s.size - k ∧ Going w wr bp p s k) ∧
    a = ⟨#[.pointer (some ⟨bp, 0, none⟩), .string s, undef, undef, .slice none 0 0, .slice none 0 0, .int .i64 0, .bool false, .int .i64 k, v 9, v 10, v 11, v 12, v 13, v 14, v 15, v 16, v 17, v 18, v 19, v 20, .string s, .string s, .pointer (some ⟨bp, 0, none⟩), .string s, .pointer (some ⟨bp, 0, none⟩), .pointer (some ⟨bp, 7, none⟩), .pointer (some ⟨bp, 0, none⟩), .pointer (some ⟨bp, 0, none⟩), .pointer (some ⟨bp, 9, none⟩), .pointer (some ⟨bp, 0, none⟩), .pointer (some ⟨bp, 0, none⟩), .pointer (some ⟨bp, 8, none⟩), v 33, v 34, v 35, v 36, v 37, v 38, v 39, v 40, v 41, v 42, v 43, v 44, v 45, v 46, v 47, v 48, v 49, v 50, v 51, v 52, v 53, v 54, v 55, v 56, v 57, v 58, v 59, v 60, v 61, v 62, v 63, v 64, v 65, v 66, v 67, v 68, v 69, v 70, v 71, v 72, v 73, v 74, v 75, v 76, v 77, v 78, v 79, v 80, v 81, v 82, v 83, v 84, v 85, v 86, v 87, v 88, v 89, v 90, v 91, v 92, v 93, v 94, v 95, v 96, v 97, v 98, v 99, v 100, v 101, v 102, v 103, v 104, v 105, v 106, v 107, v 108, v 109, v 110, v 111, v 112, v 113, v 114, v 115, v 116, v 117, v 118, v 119, v 120, v 121, v 122, v 123, v 124, v 125, v 126, v 127, v 128, v 129, v 130, v 131, v 132, v 133, v 134, v 135, v 136, v 137, v 138, v 139, v 140, v 141, v 142, v 143, v 144, v 145, v 146, v 147, v 148, v 149, v 150, v 151, v 152, v 153, v 154, v 155, v 156, v 157, v 158, v 159, v 160, v 161, v 162, v 163, v 164, v 165, v 166, v 167, v 168, v 169, v 170, v 171, v 172, v 173, v 174, v 175, v 176, v 177, v 178, v 179, v 180, v 181, v 182, v 183, v 184, v 185, v 186, v 187, v 188, v 189, v 190, v 191, v 192, v 193, v 194, v 195, v 196, v 197, v 198, v 199, v 200, v 201, v 202, v 203, v 204, v 205, v 206, v 207, v 208, v 209, v 210, v 211, v 212, v 213, v 214, v 215, v 216, v 217, v 218, v 219, v 220, v 221, v 222, v 223, v 224, v 225, v 226, v 227, v 228, v 229, v 230, v 231, v 232, v 233, v 234, v 235, v 236, v 237, v 238, v 239, v 240, v 241, v 242, v 243, v 244, v 245, v 246, v 247, v 248, v 249, v 250, v 251, v 252, v 253, v 254, v 255, v 256, v 257, v 258, v 259, v 260, v 261, v 262, v 263, v 264, v 265, v 266, v 267, v 268, v 269, v 270, v 271, v 272, v 273, v 274, v 275, v 276, v 277, v 278, v 279, v 280, v 281, v 282, v 283, v 284, v 285, v 286, v 287, v 288, v 289, v 290, v 291, v 292, v 293, v 294, v 295, v 296, v 297, v 298, v 299, v 300, v 301, v 302, v 303, v 304, v 305, v 306, v 307, v 308, v 309, v 310, v 311, v 312, v 313, v 314, v 315, v 316, v 317, v 318, v 319, v 320, v 321, v 322, v 323, v 324, v 325, v 326, v 327, v 328, v 329, v 330, v 331, v 332, v 333, v 334], []⟩) s.size ⟨0, fun _ => undef, ⟨rfl, hG⟩, rfl⟩ ?_
  · intro gk a wr hinv
    obtain ⟨k, v, ⟨rfl, hG⟩, rfl⟩ := hinv
    intro J K hJ hK
    have hle := hG.le
    rcases hG.cases with ⟨hk, hd⟩ | ⟨hk, h92, ⟨hk1, hpu⟩, hg2⟩ | hk
    · have w1 : (k : Int) < s.size := by omega
      have w2 : (0 : Int) ≤ k := by omega
      have w3 : IntKind.i64.wrap ((k : Int) + 1) = (k : Int) + 1 := IntWalk.i64_in _ (by omega)
      have d1 : ((s[k].toNat : Int) == 92) = false := dull_ne hd 92 rfl
      have d2 : ((s[k].toNat : Int) == 96) = false := dull_ne hd 96 rfl
      have d3 : ((s[k].toNat : Int) == 60) = false := dull_ne hd 60 rfl
      have d4 : ((s[k].toNat : Int) == 91) = false := dull_ne hd 91 rfl
      have d5 : ((s[k].toNat : Int) == 33) = false := dull_ne hd 33 rfl
      have d6 : ((s[k].toNat : Int) == 95) = false := dull_ne hd 95 rfl
      have d7 : ((s[k].toNat : Int) == 42) = false := dull_ne hd 42 rfl
      have d8 : ((s[k].toNat : Int) == 46) = false := dull_ne hd 46 rfl
      have d9 : ((s[k].toNat : Int) == 45) = false := dull_ne hd 45 rfl
      have d10 : ((s[k].toNat : Int) == 34) = false := dull_ne hd 34 rfl
      have d11 : ((s[k].toNat : Int) == 39) = false := dull_ne hd 39 rfl
      have d12 : ((s[k].toNat : Int) == 126) = false := dull_ne hd 126 rfl
      have d13 : ((s[k].toNat : Int) == 10) = false := dull_ne hd 10 rfl
      have d14 : ((s[k].toNat : Int) == 38) = false := dull_ne hd 38 rfl
      have d15 : ((s[k].toNat : Int) == 58) = false := dull_ne hd 58 rfl
      have hG2 := hG.dull_step hk hd
      have hE := eql_nil_nil
      clear hG hd
      go_wp2_with fail
      all_goals
        exact Handed.intro (s.size - (k + 1)) (by omega) (hJ _ _ _ ⟨k + 1, (fun d => cond (Nat.ble 9 d && Nat.ble d 15) (List.getD [_, _, _, _, _, _, _] (d - 9) undef) (cond (Nat.ble 33 d && Nat.ble d 165) (cond (Nat.ble d 96) (cond (Nat.ble d 64) (cond (Nat.ble d 48) (List.getD [_, _, _, _, _, _, _, _, _, _, _, _, _, _, _, _] (d - 33) undef) (List.getD [_, _, _, _, _, _, _, _, _, _, _, _, _, _, _, _] (d - 49) undef)) (cond (Nat.ble d 80) (List.getD [_, _, _, _, _, _, _, _, _, _, _, _, _, _, _, _] (d - 65) undef) (List.getD [_, _, _, _, _, _, _, _, _, _, _, _, _, _, _, _] (d - 81) undef))) (cond (Nat.ble d 128) (cond (Nat.ble d 112) (List.getD [_, _, _, _, _, _, _, _, _, _, _, _, _, _, _, _] (d - 97) undef) (List.getD [_, _, _, _, _, _, _, _, _, _, _, _, _, _, _, _] (d - 113) undef)) (cond (Nat.ble d 144) (List.getD [_, _, _, _, _, _, _, _, _, _, _, _, _, _, _, _] (d - 129) undef) (cond (Nat.ble d 160) (List.getD [_, _, _, _, _, _, _, _, _, _, _, _, _, _, _, _] (d - 145) undef) (List.getD [_, _, _, _, _] (d - 161) undef))))) (cond (Nat.ble 293 d && Nat.ble d 294) (List.getD [_, _] (d - 293) undef) (v d)))), ⟨rfl, hG2⟩, rfl⟩)
    · have w1 : (k : Int) < s.size := by omega
      have w2 : (0 : Int) ≤ k := by omega
      have d1 : ((s[k].toNat : Int) == 92) = true := by rw [h92]; rfl
      obtain ⟨_, _, e, n, lv, xs, pcs, he, hn, hh, hsc⟩ := hG
      have HSC := Lib.hid hsc
      have HPU := Lib.hid hpu
      have HG2 := Lib.hid hg2
      clear hsc hpu hg2
      have hE := eql_func_nil
      go_wp2_with fail
      refine (parseEscape_punct _ s k wr hk1 (by omega) HPU.out).mono ?_
      rintro e' wA ⟨b, rfl, hmA, hbn, hbA⟩
      have hhA := hh.same hmA
      go_wp2_with fail
      refine (emit_held hhA k he hle (by omega) (by omega)).mono ?_
      rintro e' wB ⟨rfl, n', lv', xs', hn', hmB, hB⟩
      have hbB := hbA.keep hmB (pcs_safe hhA.at_ hhA.row b _ _ hbA (Or.inr rfl))
      have k9 := hB.at_.list
      have hl9 := hB.at_.lt
      have hO := as_openPlain_no
      go_wp2_with (at_builtin; refine ap_inl rfl (.tmp 147) (.tmp 149) rfl lv' n' xs' rfl (hB.row.alloc _) wB.heap.size 1 _ (.pointer (some ⟨b, 0, none⟩)) rfl ((Blk.newAt _ _ rfl).cell 0) (by omega) ?_)
      intro g cap wC hown1 hgrow hloc
      obtain ⟨k9', f9', hl9'⟩ := hB.push_at hgrow
      have hP := hB.push hown1 hgrow hloc hbB
      clear hgrow hloc hown1 k9 hl9
      go_wp2_with fail
      refine (skip_any bp _ _ _ hP.at_).mono ?_
      rintro e' wD ⟨rfl, hmD, hpD⟩
      go_wp2_with fail
      exact Handed.intro (s.size - (k + 2)) (by omega) (hJ _ _ _ ⟨k + 2, (fun d => cond (Nat.ble 9 d && Nat.ble d 15) (List.getD [_, _, _, _, _, _, _] (d - 9) undef) (cond (Nat.ble 33 d && Nat.ble d 165) (cond (Nat.ble d 96) (cond (Nat.ble d 64) (cond (Nat.ble d 48) (List.getD [_, _, _, _, _, _, _, _, _, _, _, _, _, _, _, _] (d - 33) undef) (List.getD [_, _, _, _, _, _, _, _, _, _, _, _, _, _, _, _] (d - 49) undef)) (cond (Nat.ble d 80) (List.getD [_, _, _, _, _, _, _, _, _, _, _, _, _, _, _, _] (d - 65) undef) (List.getD [_, _, _, _, _, _, _, _, _, _, _, _, _, _, _, _] (d - 81) undef))) (cond (Nat.ble d 128) (cond (Nat.ble d 112) (List.getD [_, _, _, _, _, _, _, _, _, _, _, _, _, _, _, _] (d - 97) undef) (List.getD [_, _, _, _, _, _, _, _, _, _, _, _, _, _, _, _] (d - 113) undef)) (cond (Nat.ble d 144) (List.getD [_, _, _, _, _, _, _, _, _, _, _, _, _, _, _, _] (d - 129) undef) (cond (Nat.ble d 160) (List.getD [_, _, _, _, _, _, _, _, _, _, _, _, _, _, _, _] (d - 145) undef) (List.getD [_, _, _, _, _] (d - 161) undef))))) (cond (Nat.ble 293 d && Nat.ble d 294) (List.getD [_, _] (d - 293) undef) (v d)))), ⟨rfl, HG2.out, by omega, k + 2, n' + 1, _, _, _, Nat.le_refl _, by omega, hP.skipped hmD hpD, scan_esc hk h92 HSC.out⟩, rfl⟩)
    · have w1 : ¬ ((k : Int) < s.size) := by omega
      obtain ⟨_, _, e, n, lv, xs, pcs, he, hn, hh, hsc⟩ := hG
      have HSC := Lib.hid hsc
      have HK := Lib.hid hk
      clear hsc hk
      go_wp2_with fail
      refine (emit_held hh s.size (by have := HK.out; omega) (Nat.le_refl _) (by omega) (by omega)).mono ?_
      rintro e' wB ⟨rfl, n', lv', xs', hn', hmB, hB⟩
      have hall : pcs ++ (if e < s.size then [Pc.plain (s.extract e s.size)] else []) = scan s 0 0 := by rw [← HSC.out, HK.out, scan_end]
      rw [hall] at hB
      have hn0 : 0 < n' := by
        have h1 := hB.pcs.length
        have h2 := hB.row.1
        have h3 := scan_ne s 0 0 (Nat.le_refl _) (Nat.zero_le _) h0
        have h4 : (scan s 0 0).length ≠ 0 := fun h => h3 (List.length_eq_zero_iff.1 h)
        omega
      have hnk : n' ≤ s.size + 1 := by have := HK.out; omega
      obtain ⟨gl, cap, rfl, _, _, _⟩ := ownsRow_form hB.row hn0
      have hOB : Opt wB p 3 false := hO.keep hB.mods hpb
      have HE : ∀ W, Same wB W → Calls Tryz.prog 91 #[.pointer (some ⟨bp, 0, none⟩), .slice (some ⟨gl, 0, none⟩) 0 cap, .slice (some ⟨gl, 0, none⟩) n' cap] W fun e W' => e = .returned (.slice (some ⟨gl, 0, none⟩) n' cap) ∧ Same wB W' ∧
          W'.cell? ⟨bp, 9, none⟩ = some (.slice (some ⟨gl, 0, none⟩) n' cap) ∧ W'.frozen? ⟨bp, 9, none⟩ = false ∧ bp < W'.heap.size := fun W hW =>
        (emph_id _ gl n' cap xs' _ W (hB.same hW).row (hB.same hW).pcs (by omega)).mono fun e W' ⟨h1, h2⟩ =>
          ⟨h1, hW.trans h2, (hB.same (hW.trans h2)).at_.list, (hB.same (hW.trans h2)).at_.fr 9, (hB.same (hW.trans h2)).at_.lt⟩
      have k9 := hB.at_.list
      have f9 := hB.at_.fr 9
      have hl9 := hB.at_.lt
      have hcap : (0 : Int) ≤ cap := by omega
      have hS0 : Same wB wB := Mods.refl _ _
      go_wp2_with fail
      go_region_with ((go_at_call 91; refine (HE _ (by repeat (first | assumption | apply Mods.drew))).mono ?_; rintro e' wC ⟨rfl, hmC, k9', f9', hl9'⟩))
      all_goals
        have hC := hB.again hmC
        generalize (World.setCell wC _ _ : World) = wD at hC ⊢
        clear k9' f9' hl9' k9 f9 hl9
        have k9 := hC.at_.list
        have f9 := hC.at_.fr 9
        have hl9 := hC.at_.lt
        go_wp2_with fail
        refine (mergePlain_id _ gl n' cap xs' _ wD hC.row hC.pcs (scan_alt s 0 0) (by omega)).mono ?_
        rintro e' wE ⟨rfl, hmE⟩
        have hE2 := hC.same hmE
        clear k9 f9 hl9
        have k9 := hE2.at_.list
        have f9 := hE2.at_.fr 9
        have hl9 := hE2.at_.lt
        go_wp2_with fail
        have hF := hC.again hmE
        generalize (World.setCell wE _ _ : World) = wF at hF ⊢
        have hOF : Opt wF p 3 false := hO.keep hF.mods hpb
        refine (autoLinkText_off bp _ _ wF hF.at_ hOF).mono ?_
        rintro e' wG ⟨rfl, rfl⟩
        clear k9 f9 hl9
        have k9 := hF.at_.list
        have f9 := hF.at_.fr 9
        have hl9 := hF.at_.lt
        go_wp2_with fail
        go_ret
        exact ⟨gl, n', cap, xs', rfl, hn0, hnk, hF.again (Mods.refl _ _)⟩
end Go.Proofs.YtdnlfdppjfjncaaGreatDoor
