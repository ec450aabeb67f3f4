/- Some texts of one proof, put into one file: Em5, Em11, Em12, Em13, Em14, Em15. -/
import Derived.Deep.RegionLaw
import Derived.Test.YtmmopoofheblbaaGreatDoorIm11
/- emph: whether an opener and a closer go together. -/
namespace Go.Proofs.YtmmopoofheblbaaGreatDoor.T
open Go Go.RowKit Go.Proofs
set_option maxRecDepth 100000 in
set_option maxHeartbeats 20000000 in
theorem r20_126 (q d0 sv : Value) (D S i kx j : Nat) (p o : Mk) (pi oi : Int) (w : World) (hp : MkAt w p pi) (ho : MkAt w o oi) (hpk : p.Ok) (hok : o.Ok) (hp0 : 0 < p.k) (hcc : p.cc = true) (hc : p.c = 126) (Q : Exit → Act → World → Prop)
    (hyes : sk1 p o = true → ∀ a' w', Fr5 q d0 sv D S i p.m kx j o.m a' → Same w w' → Q (.exit 5) a' w') (hno : sk1 p o = false → ∀ a' w', Fr5 q d0 sv D S i p.m kx j o.m a' → Same w w' → Q .normal a' w')
    (a : Act) (ha : Fr5 q d0 sv D S i p.m kx j o.m a) : Code.wp Tryz.prog c20 Q a w := by
  obtain ⟨v, rfl⟩ := ha
  obtain ⟨pm, pc, pk, pco, pcc, pn⟩ := p
  obtain ⟨om, oc, ok, oco, occ, on⟩ := o
  have hcc' : pcc = true := hcc
  subst hcc'
  conv => arg 2; whnf
  have x0 : w.cell? ⟨pm, 0, none⟩ = some (.string (run pc pk)) := Blk.cell hp 0
  have x1 : w.cell? ⟨pm, 1, none⟩ = some (.bool pco) := Blk.cell hp 1
  have x2 : w.cell? ⟨pm, 2, none⟩ = some (.bool true) := Blk.cell hp 2
  have x4 : w.cell? ⟨pm, 4, none⟩ = some (.int .i64 pn) := Blk.cell hp 4
  have z1 : w.cell? ⟨om, 1, none⟩ = some (.bool oco) := Blk.cell ho 1
  have z2 : w.cell? ⟨om, 2, none⟩ = some (.bool occ) := Blk.cell ho 2
  have z4 : w.cell? ⟨om, 4, none⟩ = some (.int .i64 on) := Blk.cell ho 4
  have hpn : pn ≤ 1000000 := hpk.2.2
  have hon : on ≤ 1000000 := hok.2.2
  have hsz : 0 < (run pc pk).size := by rw [run_size]; exact hp0
  have hpc : McOk pc := hpk.1
  have u0 : ∀ h : 0 < (run pc pk).size, (((run pc pk)[0]'h).toNat : Int) = pc.toNat := fun h => by rw [run_get]
  generalize hrun : run pc pk = tt at x0 hsz u0
  have HY := Lib.hid hyes
  have HN := Lib.hid hno
  have hc' : pc = 126 := hc
  clear hc hpc
  subst hc'
  clear hyes hno hp ho hpk hok hp0 hcc hrun
  have s1 : IntKind.i64.wrap ((pn : Int) + (on : Int)) = (pn : Int) + (on : Int) := IntWalk.i64_in _ (by omega)
  obtain ⟨a, ha⟩ : ∃ a : Nat, a = pn % 3 := ⟨_, rfl⟩
  obtain ⟨b, hb⟩ : ∃ b : Nat, b = on % 3 := ⟨_, rfl⟩
  obtain ⟨e, he⟩ : ∃ e : Nat, e = (pn + on) % 3 := ⟨_, rfl⟩
  have t1 : (pn : Int).tmod 3 = (a : Int) := by rw [Int.tmod_eq_emod_of_nonneg (by omega)]; omega
  have t2 : (on : Int).tmod 3 = (b : Int) := by rw [Int.tmod_eq_emod_of_nonneg (by omega)]; omega
  have t3 : ((pn : Int) + (on : Int)).tmod 3 = (e : Int) := by rw [Int.tmod_eq_emod_of_nonneg (by omega)]; omega
  have HA := Lib.hid ha
  have HB := Lib.hid hb
  have HE := Lib.hid he
  clear ha hb he
  have u1 : ∀ h : 0 < tt.size, ((tt[0]'h).toNat : Int) = 126 := u0
  clear u0
  go_wp2_with fail
  go_quiet (fail)
  go_wp2_with fail
  refine HN.out ?_ _ _ ⟨(fun d => cond (Nat.ble 96 d && Nat.ble d 164) (cond (Nat.ble d 127) (cond (Nat.ble d 111) (List.getD [_, _, _, _, _, _, _, _, _, _, _, _, _, _, _, _] (d - 96) undef) (List.getD [_, _, _, _, _, _, _, _, _, _, _, _, _, _, _, _] (d - 112) undef)) (cond (Nat.ble d 143) (List.getD [_, _, _, _, _, _, _, _, _, _, _, _, _, _, _, _] (d - 128) undef) (cond (Nat.ble d 159) (List.getD [_, _, _, _, _, _, _, _, _, _, _, _, _, _, _, _] (d - 144) undef) (List.getD [_, _, _, _, _] (d - 160) undef)))) (v d)), rfl⟩ ((Mods.refl _ w).drewN _)
  rfl
set_option maxRecDepth 100000 in
set_option maxHeartbeats 20000000 in
theorem r20 (q d0 sv : Value) (D S i kx j : Nat) (p o : Mk) (pi oi : Int) (w : World) (hp : MkAt w p pi) (ho : MkAt w o oi) (hpk : p.Ok) (hok : o.Ok) (hp0 : 0 < p.k) (hcc : p.cc = true) (Q : Exit → Act → World → Prop)
    (hyes : sk1 p o = true → ∀ a' w', Fr5 q d0 sv D S i p.m kx j o.m a' → Same w w' → Q (.exit 5) a' w') (hno : sk1 p o = false → ∀ a' w', Fr5 q d0 sv D S i p.m kx j o.m a' → Same w w' → Q .normal a' w')
    (a : Act) (ha : Fr5 q d0 sv D S i p.m kx j o.m a) : Code.wp Tryz.prog c20 Q a w := by
  rcases hpk.1 with hc | hc | hc
  · exact r20_95 q d0 sv D S i kx j p o pi oi w hp ho hpk hok hp0 hcc hc Q hyes hno a ha
  · exact r20_42 q d0 sv D S i kx j p o pi oi w hp ho hpk hok hp0 hcc hc Q hyes hno a ha
  · exact r20_126 q d0 sv D S i kx j p o pi oi w hp ho hpk hok hp0 hcc hc Q hyes hno a ha
end Go.Proofs.YtmmopoofheblbaaGreatDoor.T

/- emph: an opener is looked at. -/
namespace Go.Proofs.YtmmopoofheblbaaGreatDoor.T
open Go Go.RowKit Go.Proofs

theorem c5_sq : c5 = .seq (fst c5) (.seq c20 c21) := rfl
theorem c38_sq : c38 = .seq (fst c38) c39 := rfl
theorem c39_sq : c39 = .seq (fst c39) c40 := rfl
theorem c40_sq : c40 = .seq (fst c40) c43 := rfl
theorem c43_sq : c43 = .seq (fst c43) c44 := rfl

def Fr16 (q d0 sv : Value) (D S i m kx j : Nat) (a : Act) : Prop := ∃ v : Nat → Value, a = ⟨#[q, d0, sv, undef, .pointer (some ⟨D, 0, none⟩), undef, .slice none 0 0, .pointer (some ⟨S, 0, none⟩), .func (.func 159) #[] #[], .func (.func 160) #[] #[.pointer (some ⟨S, 0, none⟩), .pointer (some ⟨D, 0, none⟩)], .int .i64 i, v 11, v 12, .pointer (some ⟨m, 0, none⟩), v 14, .pointer (some ⟨S, kx, none⟩), .int .i64 j, v 17, v 18, v 19, v 20, v 21, .func (.func 160) #[] #[.pointer (some ⟨S, 0, none⟩), .pointer (some ⟨D, 0, none⟩)], v 23, v 24, v 25, v 26, v 27, v 28, v 29, v 30, v 31, v 32, v 33, v 34, v 35, v 36, v 37, v 38, v 39, v 40, v 41, v 42, v 43, v 44, v 45, v 46, v 47, v 48, v 49, v 50, v 51, v 52, v 53, v 54, v 55, v 56, v 57, v 58, v 59, v 60, v 61, v 62, v 63, v 64, v 65, v 66, v 67, v 68, v 69, v 70, v 71, v 72, v 73, v 74, v 75, v 76, v 77, v 78, v 79, v 80, v 81, v 82, v 83, v 84, v 85, v 86, v 87, v 88, v 89, v 90, v 91, v 92, v 93, v 94, v 95, v 96, v 97, v 98, v 99, v 100, v 101, v 102, v 103, v 104, v 105, v 106, v 107, v 108, v 109, v 110, v 111, v 112, v 113, v 114, v 115, v 116, v 117, v 118, v 119, v 120, v 121, v 122, v 123, v 124, v 125, v 126, v 127, v 128, v 129, v 130, v 131, v 132, v 133, v 134, v 135, v 136, v 137, v 138, v 139, v 140, v 141, v 142, v 143, v 144, v 145, v 146, v 147, v 148, v 149, v 150, v 151, v 152, v 153, v 154, v 155, v 156, v 157, v 158, v 159, v 160, v 161, v 162, v 163, v 164, v 165, v 166, v 167, v 168, v 169, v 170, v 171, v 172, v 173, v 174, v 175, v 176, v 177, v 178, v 179, v 180, v 181, v 182, v 183, v 184, v 185, v 186, v 187, v 188, v 189, v 190, v 191, v 192, v 193, v 194, v 195, v 196, v 197, v 198, v 199, v 200, v 201, v 202, v 203, v 204, v 205, v 206, v 207, v 208, v 209, v 210, v 211, v 212, v 213, v 214, v 215, v 216, v 217, v 218, v 219, v 220, v 221, v 222, v 223, v 224, v 225, v 226, v 227, v 228, v 229, v 230, v 231, v 232, v 233, v 234, v 235, v 236, v 237, v 238, v 239, v 240, v 241, v 242, v 243, v 244, v 245, v 246, v 247, v 248, v 249, v 250, v 251, v 252, v 253, v 254, v 255, v 256, v 257, v 258, v 259, v 260, v 261, v 262, v 263, v 264, v 265, v 266, v 267, v 268, v 269, v 270, v 271, v 272, v 273, v 274, v 275, v 276, v 277, v 278, v 279, v 280, v 281, v 282, v 283, v 284, v 285, v 286, v 287, v 288, v 289, v 290, v 291, v 292, v 293, v 294, v 295, v 296, v 297, v 298, v 299, v 300, v 301, v 302, v 303, v 304, v 305, v 306, v 307, v 308, v 309, v 310, v 311, v 312, v 313, v 314, v 315, v 316, v 317, v 318, v 319, v 320, v 321, v 322, v 323, v 324, v 325, v 326, v 327, v 328, v 329, v 330, v 331, v 332, v 333, v 334, v 335, v 336, v 337, v 338, v 339, v 340, v 341, v 342, v 343, v 344, v 345, v 346, v 347, v 348, v 349, v 350, v 351, v 352, v 353, v 354, v 355, v 356, v 357, v 358, v 359, v 360, v 361, v 362, v 363, v 364, v 365, v 366, v 367, v 368, v 369, v 370, v 371, v 372, v 373, v 374, v 375, v 376, v 377, v 378, v 379, v 380, v 381, v 382, v 383, v 384, v 385, v 386, v 387, v 388, v 389, v 390, v 391, v 392, v 393, v 394, v 395, v 396, v 397, v 398, v 399, v 400, v 401, v 402, v 403, v 404, v 405, v 406, v 407, v 408, v 409, v 410, v 411, v 412, v 413, v 414, v 415, v 416, v 417, v 418, v 419, v 420, v 421, v 422, v 423, v 424, v 425, v 426, v 427, v 428, v 429, v 430, v 431, v 432, v 433, v 434, v 435], []⟩
theorem Fr5.fr16 {q d0 sv : Value} {D S i m kx j mo : Nat} {a : Act} (h : Fr5 q d0 sv D S i m kx j mo a) : Fr16 q d0 sv D S i m kx j a := by
  obtain ⟨v, rfl⟩ := h
  exact ⟨(fun d => cond (Nat.ble 17 d && Nat.ble d 17) (List.getD [_] (d - 17) undef) (v d)), rfl⟩

set_option maxRecDepth 100000 in
set_option maxHeartbeats 4000000 in
theorem r19 (q d0 sv : Value) (D S i kx jx pm om sg sn sc : Nat) (w : World) (hkx : kx < 5) (k0 : w.cell? ⟨S, kx, none⟩ = some (.slice (some ⟨sg, 0, none⟩) sn sc)) (hj : jx < sn) (hsn : sn ≤ 1000000) (hc : w.cell? ⟨sg, jx, none⟩ = some (.pointer (some ⟨om, 0, none⟩)))
    (Q : Exit → Act → World → Prop) (hnext : ∀ a', Fr5 q d0 sv D S i pm kx jx om a' → Q .normal a' w)
    (a : Act) (ha : Fr16 q d0 sv D S i pm kx jx a) : Code.wp Tryz.prog (fst c5) Q a w := by
  obtain ⟨v, rfl⟩ := ha
  conv => arg 2; whnf
  have HN := Lib.hid hnext
  have c1 : (0 : Int) ≤ jx := by omega
  have c2 : (jx : Int) < sn := by omega
  clear hnext
  go_wp2_with fail
  exact HN.out _ ⟨(fun d => cond (Nat.ble 90 d && Nat.ble d 95) (List.getD [_, _, _, _, _, _] (d - 90) undef) (v d)), rfl⟩

theorem take2_le (p o : Mk) (hp : 0 < p.k) (ho : 0 < o.k) : take2 p o ≤ p.k ∧ take2 p o ≤ o.k ∧ 0 < take2 p o ∧ (take2 p o = 1 ∨ take2 p o = 2) := by
  unfold take2
  split
  · rename_i h
    exact ⟨h.1, h.2, by decide, Or.inr rfl⟩
  · exact ⟨hp, ho, by decide, Or.inl rfl⟩

def ES.done (s : ES) (j : Nat) (o p : Mk) (da : Option Addr) (dc : Nat) (ys : List Value) : ES :=
  { s with da := da, dc := dc, ys := ys, dst := closeAt s.dst j o p, hand := [{ p with k := p.k - take2 p o }] }

/-- The closer and the opener at place j of the list (the jx-th of its stack). -/
theorem look {E : EE} {w : World} {s : ES} (h : EmG E w s) (q d0 sv : Value) (i jx j : Nat) (p o : Mk) (hh : s.hand = [p]) (hp0 : 0 < p.k) (hcc : p.cc = true) (hx : (stkOf (kIx p.c) s.dst)[jx]? = some (j, o)) (hlast : j + 1 < s.dst.length) (hlt : s.dst.length < s.i) (hin : s.i ≤ E.n) (hn6 : E.n ≤ 1000000)
    (Q : Exit → Act → World → Prop)
    (hskip : skips p o = true → ∀ a' w', Fr16 q d0 sv E.D E.S i p.m (kIx p.c) jx a' → Same w w' → Q (.exit 5) a' w')
    (hclose : skips p o = false → ∀ a' w' da dc ys, Fr3 q d0 sv E.D E.S i p.m (kIx p.c) a' → EmG E w' (s.done j o p da dc ys) → Q (.exit 3) a' w')
    (a : Act) (ha : Fr16 q d0 sv E.D E.S i p.m (kIx p.c) jx a) : Code.wp Tryz.prog c5 Q a w := by
  have hR := h.r
  have hq3 := kIx_lt p.c
  have hjn := (List.getElem?_eq_some_iff.1 hx).1
  obtain ⟨hpOk, pi, hpA⟩ := hR.hnd p (by rw [hh]; exact List.mem_singleton_self _)
  have hmem := (List.mem_filter.1 (List.mem_of_getElem? hx))
  have hjo := (marksFrom_get s.dst 0 j o).1 hmem.1
  have hj : s.dst[j]? = some (.mk o) := by simpa using hjo.2
  have hco : kIx o.c = kIx p.c := by simpa using hmem.2
  obtain ⟨hyj, hoA, hoOk, ho0⟩ := hR.dstMk j o hj
  have hoc : o.c = p.c := kIx_inj hoOk.1 hpOk.1 hco
  have hr := hR.stk _ hq3
  have hstl : (stkOf (kIx p.c) s.dst).length ≤ 1000000 := by
    have h1 : (stkOf (kIx p.c) s.dst).length ≤ (marksFrom 0 s.dst).length := List.length_filter_le _ _
    have h2 : ∀ (l : List Dt) (j : Nat), (marksFrom j l).length ≤ l.length := by
      intro l
      induction l with
      | nil => intro j; simp [marksFrom]
      | cons x l ih => intro j; cases x <;> simp only [marksFrom, List.length_cons] <;> have := ih (j + 1) <;> omega
    have := h2 s.dst 0
    omega
  obtain ⟨sg, hka⟩ : ∃ sg, s.ka (kIx p.c) = some ⟨sg, 0, none⟩ := by
    rcases hr.2 with ⟨_, h0⟩ | ⟨g, cap, cur, hv, _⟩
    · omega
    · unfold stkV at hv
      cases hsa : s.ka (kIx p.c) with
      | none => rw [hsa] at hv; cases hv
      | some a => rw [hsa] at hv; cases hv; exact ⟨g, rfl⟩
  have hScell : w.cell? ⟨E.S, kIx p.c, none⟩ = some (.slice (some ⟨sg, 0, none⟩) (stkOf (kIx p.c) s.dst).length (s.kc (kIx p.c))) := by
    rw [hR.S.cell]
    have h3 : kIx p.c = 0 ∨ kIx p.c = 1 ∨ kIx p.c = 2 := by omega
    have h4 : (stkCells s)[kIx p.c]? = some (stkV s (kIx p.c)) := by
      rcases h3 with h3 | h3 | h3 <;> rw [h3] <;> rfl
    rw [h4]
    unfold stkV
    rw [hka]
  have hocell : w.cell? ⟨sg, jx, none⟩ = some (.pointer (some ⟨o.m, 0, none⟩)) := by
    have hr' := hr
    unfold stkV at hr'
    rw [hka] at hr'
    obtain ⟨_, _, he, _, _, hc⟩ := ownsRow_form hr' (by omega)
    cases he
    refine hc jx _ ?_
    rw [List.getElem?_map, hx]
    rfl
  obtain ⟨t1, t2, t3, t4⟩ := take2_le p o hp0 ho0
  rw [c5_sq]
  refine wp_seq (r19 q d0 sv E.D E.S i (kIx p.c) jx p.m o.m sg _ _ w (by omega) hScell hjn hstl hocell _ (fun a1 ha1 => ?_) a ha)
  refine wp_seq (r20 q d0 sv E.D E.S i (kIx p.c) jx p o pi j w hpA hoA hpOk hoOk hp0 hcc (Exit.then (Code.wp Tryz.prog c21 Q) Q) (fun hs a2 w2 ha2 hw2 => hskip (by rw [skips_eq, hs]; rfl) a2 w2 ha2.fr16 hw2) (fun hs a2 w2 ha2 hw2 => ?_) a1 ha1)
  show Code.wp _ c21 Q a2 w2
  have hpA2 := hw2.blk hpA
  have hoA2 := hw2.blk hoA
  refine r21 q d0 sv E.D E.S i (kIx p.c) jx p o pi j w2 hpA2 hoA2 hpOk hoOk hp0 ho0 Q (fun hs2 a3 w3 ha3 hw3 => hskip (by rw [skips_eq, hs, hs2]; rfl) a3 w3 ha3.fr16 (hw2.trans hw3)) (fun hs2 a3 w3 ha3 hw3 => ?_) a2 ha2
  have hw23 : Same w w3 := hw2.trans hw3
  have h3 := h.same hw23
  have hpA3 := hw23.blk hpA
  have hoA3 := hw23.blk hoA
  obtain ⟨g, hda, hcap, _, hcells⟩ := h3.lst.cap (by rw [hR.len]; omega)
  have hylen := hR.len
  have hdcm : s.dc ≤ maxLen := by
    rcases h3.lst.row.2 with ⟨_, h0⟩ | ⟨g', cap, cur, hv, _, _, _, hm, _⟩
    · have : s.ys.length = s.dst.length := hylen; omega
    · simp only [Value.slice.injEq] at hv
      rw [hv.2.2]
      exact hm
  have hD3 := h3.D
  rw [hda] at hD3
  have hone : ∀ u, u ∈ s.ys → u.oneCell' = true := by
    intro u hu
    obtain ⟨k, hk, hku⟩ := List.mem_iff_getElem.1 hu
    obtain ⟨d, hd⟩ : ∃ d, s.dst[k]? = some d := ⟨_, List.getElem?_eq_getElem (by omega)⟩
    have hdt := hR.dts k d u hd (by rw [List.getElem?_eq_getElem hk, hku])
    cases d with
    | fin t =>
      obtain ⟨b, ty, rfl, _⟩ := InlAt.val hdt
      rfl
    | mk p => rw [hdt.1]; rfl
  refine r37 q d0 sv E.D E.S i (kIx p.c) jx p.m o.m (take2 p o) (p.c == 126) g s.ys.length s.dc j (run p.c p.k) (s.ys.drop (j + 1)) w3 _ _ hpA3 rfl hoA3 rfl (by rw [run_size]; exact t1) (by rw [run_size]; exact hpOk.2.1) ⟨_, hD3⟩ (by omega) hcap hdcm (by omega) (by simp) (fun t u hu => hcells (j + 1 + t) u (by rw [List.getElem?_drop] at hu; exact hu)) (fun u hu => hone u (List.mem_of_mem_drop hu)) Q (fun a4 w4 db ig ic ha4 hw4 hrow4 hB4 hig hdb => ?_) a3 ha3
  have h4 := h3.same hw4
  have hpA4 := hw4.blk hpA3
  have hoA4 := hw4.blk hoA3
  have hpo : p.m ≠ o.m := by
    intro e
    have hnd := hR.nodup
    unfold live at hnd
    rw [hh] at hnd
    exact (List.nodup_append.1 hnd).2.2 o.m (liveD_mem hj) p.m (by simp) e.symm
  rw [c38_sq]
  refine wp_seq (r38 q d0 sv E.D E.S i (kIx p.c) jx p.m o.m (take2 p o) (p.c == 126) db (run o.c o.k) w4 _ hoA4 rfl (by rw [run_size]; exact t2) (by rw [run_size]; exact hoOk.2.1) _ (fun a5 w5 ha5 hm5 ho5 => ?_) a4 ha4)
  have hpA5 := hpA4.keep hm5 hpo
  rw [run_size, run_take _ _ _ (by omega)] at ho5
  show Code.wp _ c39 Q a5 w5
  rw [c39_sq]
  refine wp_seq (r39 q d0 sv E.D E.S i (kIx p.c) jx p.m o.m (take2 p o) (p.c == 126) db (run p.c p.k) w5 _ hpA5 rfl (by rw [run_size]; exact t1) (by rw [run_size]; exact hpOk.2.1) _ (fun a6 w6 ha6 hm6 hp6 => ?_) a5 ha5)
  have ho6 := ho5.keep hm6 (Ne.symm hpo)
  rw [run_size, run_drop] at hp6
  have hm46 : Mods (fun b => b = o.m ∨ b = p.m) w4 w6 := (hm5.mono (S' := fun b => b = o.m ∨ b = p.m) (fun _ _ e => Or.inl e)).then hm6 (fun _ _ e => Or.inr e)
  have hD6 := h4.D.keep hm46 (by
    rintro (e | e)
    · exact h4.D.ne_of_type hoA4 (by decide) e
    · exact h4.D.ne_of_type hpA4 (by decide) e)
  rw [hda] at hD6
  show Code.wp _ c40 Q a6 w6
  rw [c40_sq]
  have hfin : ∀ a7 w7, Fr38 q d0 sv E.D E.S i p.m (kIx p.c) jx o.m (take2 p o) (p.c == 126) db a7 → Mods (fun b => b = E.D) w6 w7 → Blk w7 E.D #[.slice s.da (cutAt s.dst j o p).length s.dc] 84 → Code.wp Tryz.prog c43 Q a7 w7 := by
    intro a7 w7 ha7 hm7 hD7
    have ho7 := ho6.keep hm7 (fun e => h4.D.ne_of_type hoA4 (by decide) e.symm)
    have hp7 := hp6.keep hm7 (fun e => h4.D.ne_of_type hpA4 (by decide) e.symm)
    have hm47 : Mods (fun b => b = o.m ∨ b = p.m ∨ b = E.D) w4 w7 := (hm46.mono (S' := fun b => b = o.m ∨ b = p.m ∨ b = E.D) (fun _ _ e => e.imp (fun e => e) (fun e => Or.inl e))).then hm7 (fun _ _ e => Or.inr (Or.inr e))
    rw [c43_sq]
    refine wp_seq (r43 q d0 sv E.D E.S i (kIx p.c) jx p.m o.m (take2 p o) (p.c == 126) db w7 (fun w8 => Mods (fun k => k = E.S) w7 w8 ∧ Blk w8 E.S (stkCells (s.close j o p)) 281) _ (fun W hW => by subst hW; exact trim_close h4 p o j hh hj _ ho7 hm47 hD7 (by omega)) (fun a8 w8 ha8 hR8 => ?_) a7 ha7)
    obtain ⟨hm8, hS8⟩ := hR8
    have hSo : ∀ {b : Nat} {cs : Array Value} {T : Nat}, Blk w7 b cs T → b ≠ E.S → Blk w8 b cs T := fun hb hne => hb.keep hm8 hne
    have ho8 := hSo ho7 (fun e => by exact h4.r.S.ne_of_type hoA4 (by decide) e.symm)
    have hp8 := hSo hp7 (fun e => by exact h4.r.S.ne_of_type hpA4 (by decide) e.symm)
    have hD8 := hSo hD7 (fun e => by exact h4.D.ne_of_type h4.r.S (by decide) e)
    have hm48 : Mods (fun b => b = o.m ∨ b = p.m ∨ b = E.D ∨ b = E.S) w4 w8 := (hm47.mono (S' := fun b => b = o.m ∨ b = p.m ∨ b = E.D ∨ b = E.S) (fun _ _ e => e.imp (fun e => e) (fun e => e.imp (fun e => e) (fun e => Or.inl e)))).then hm8 (fun _ _ e => Or.inr (Or.inr (Or.inr e)))
    obtain ⟨hG8, hK8⟩ := h4.close p o j pi hh hj (by omega) t2 hm48 ho8 hp8 hD8 hS8
    have hAv : ∀ b, Av E (s.close j o p) b → Av E s b := by
      have hsub : (live E (s.close j o p)).Sublist (live E s) := by
        show (liveD (cutAt s.dst j o p) ++ (p.m :: liveS (E.src.drop s.i))).Sublist (liveD s.dst ++ (s.hand.map (fun p => p.m) ++ liveS (E.src.drop s.i)))
        rw [hh]
        exact List.Sublist.append (cut_sub hj) (List.Sublist.refl _)
      rintro b (e | e | e)
      · exact Or.inl e
      · exact Or.inr (Or.inl (hsub.subset e))
      · exact Or.inr (Or.inr e)
    rw [run_take _ _ _ t1] at hB4
    have hig3 : w3.heap.size ≤ ig := hig
    have hlist : w4.ownsRow 0 157 1 (.slice (some ⟨ig, 0, none⟩) (s.ys.length - (j + 1)) ic) (s.ys.length - (j + 1)) (s.ys.drop (j + 1)) := hrow4
    have hnode := node_at (w1 := w4) h3 p.c j o p hh hj (take2 p o) db ig ic _ _ _ hig hdb hlist hB4 hm48 hK8 hAv
    have hcl := cut_len (p := p) hj
    have hcl2 : (cutAt s.dst j o p).length ≤ j + 1 := by rw [hcl]; split <;> omega
    have hyl8 : (s.close j o p).ys.length = (cutAt s.dst j o p).length := hG8.r.len
    refine r44 q d0 sv E.D E.S i (kIx p.c) p.m (take2 p o) db p.c w8 E.inp E.sg E.so E.sc E.n s.i E.xs (s.close j o p).ys s.da s.dc t4 hG8.D hG8.lst (by omega) hin hn6 Q (fun a9 w9 w10 g' dc' ha9 hS9 hL10 hm10 hloc => ?_) a8 ha8
    have hP := hG8.pushFin (emNode p.c (take2 p o) ((s.dst.drop (j + 1)).map Dt.inl)) _ g' dc' hS9 hnode (by show (cutAt s.dst j o p).length < s.i; omega) (by omega) hL10 hm10 hloc
    exact hclose (by rw [skips_eq, hs, hs2]; rfl) a9 _ _ _ _ ha9 hP
  have hcl := cut_len (p := p) hj
  by_cases hk : o.k = take2 p o
  · rw [if_pos hk] at hcl
    refine wp_seq (r40_yes q d0 sv E.D E.S i (kIx p.c) jx p.m o.m (take2 p o) (p.c == 126) db g s.ys.length s.dc j w6 _ ho6 (by simp only [markCells]; rw [hk, Nat.sub_self]; rfl) rfl hD6 (by omega) hcap hdcm _ (fun a7 w7 ha7 hm7 hD7 => hfin a7 w7 ha7 hm7 (by rw [hda, hcl]; exact hD7)) a6 ha6)
  · rw [if_neg hk] at hcl
    refine wp_seq (r40_no q d0 sv E.D E.S i (kIx p.c) jx p.m o.m (take2 p o) (p.c == 126) db g s.ys.length s.dc j (run o.c (o.k - take2 p o)) w6 _ ho6 rfl (by rw [run_size]; omega) rfl hD6 (by omega) hcap hdcm _ (fun a7 w7 ha7 hm7 hD7 => hfin a7 w7 ha7 hm7 (by rw [hda, hcl]; exact hD7)) a6 ha6)
end Go.Proofs.YtmmopoofheblbaaGreatDoor.T

/- emph: a closer looks for its openers. -/
namespace Go.Proofs.YtmmopoofheblbaaGreatDoor.T
open Go Go.RowKit Go.Proofs

theorem findOp_some {l : List (Nat × Mk)} {k : Nat} {x : Nat × Mk} {p : Mk} (hx : l[k]? = some x) (hs : skips p x.2 = false) (hr : ∀ (t : Nat) (y : Nat × Mk), k < t → l[t]? = some y → skips p y.2 = true) : findOp l p = some x := by
  unfold findOp
  rw [split_at hx, List.reverse_append, List.reverse_cons, List.append_assoc, List.find?_append]
  have h1 : (l.drop (k + 1)).reverse.find? (fun x => !skips p x.2) = none := by
    rw [List.find?_eq_none]
    intro y hy
    obtain ⟨t, ht, he⟩ := List.mem_iff_getElem.1 (List.mem_reverse.1 hy)
    have h2 : l[k + 1 + t]? = some y := by
      rw [← List.getElem?_drop, List.getElem?_eq_getElem ht, he]
    have := hr (k + 1 + t) y (by omega) h2
    simp [this]
  rw [h1]
  simp [hs]
theorem findOp_none {l : List (Nat × Mk)} {p : Mk} (hr : ∀ (t : Nat) (y : Nat × Mk), l[t]? = some y → skips p y.2 = true) : findOp l p = none := by
  unfold findOp
  rw [List.find?_eq_none]
  intro y hy
  obtain ⟨t, ht, he⟩ := List.mem_iff_getElem.1 (List.mem_reverse.1 hy)
  have := hr t y (by rw [List.getElem?_eq_getElem ht, he])
  simp [this]

theorem take2_bd (p o : Mk) (hp : 0 < p.k) : take2 p o ≤ p.k ∧ 0 < take2 p o := by
  unfold take2
  split
  · rename_i h
    exact ⟨h.1, by decide⟩
  · exact ⟨hp, by decide⟩
theorem closeLoop_more : ∀ (n : Nat) (l : List Dt) (p : Mk), p.k ≤ n → 0 < p.k → closeLoop (n + 1) l p = closeLoop n l p
  | 0, l, p, h1, h2 => by omega
  | n + 1, l, p, h1, h2 => by
    rw [closeLoop, closeLoop]
    split
    · rfl
    · rename_i j o _
      obtain ⟨h3, h4⟩ := take2_bd p o h2
      split
      · rfl
      · rename_i h5
        exact closeLoop_more n _ _ (by show p.k - _ ≤ _; omega) (by show 0 < p.k - _; omega)
theorem closeLoop_fuel : ∀ (m n : Nat) (l : List Dt) (p : Mk), p.k ≤ n → 0 < p.k → closeLoop (n + m) l p = closeLoop n l p
  | 0, n, l, p, _, _ => rfl
  | m + 1, n, l, p, h1, h2 => by
    rw [← Nat.add_assoc, closeLoop_more _ _ _ (by omega) h2]
    exact closeLoop_fuel m n l p h1 h2
/-- One more opener. -/
theorem closeLoop_step {l : List Dt} {p o : Mk} {j : Nat} (hk : 0 < p.k) (h : findOp (stkOf (kIx p.c) l) p = some (j, o)) : closeLoop p.k l p = closeLoop (p.k - take2 p o) (closeAt l j o p) { p with k := p.k - take2 p o } := by
  obtain ⟨h3, h4⟩ := take2_bd p o hk
  obtain ⟨n, hn⟩ : ∃ n, p.k = n + 1 := ⟨p.k - 1, by omega⟩
  have e : closeLoop p.k l p = closeLoop (n + 1) l p := by rw [hn]
  rw [e, closeLoop, h]
  simp only
  split
  · rename_i h5
    have h6 : p.k - take2 p o = 0 := by omega
    rw [h6]
    rfl
  · rename_i h5
    have h6 := closeLoop_fuel (take2 p o - 1) (p.k - take2 p o) (closeAt l j o p) { p with k := p.k - take2 p o } (Nat.le_refl _) (by show 0 < p.k - _; omega)
    rw [← h6]
    congr 1
    omega
theorem closeLoop_end {l : List Dt} {p : Mk} (h : findOp (stkOf (kIx p.c) l) p = none) : closeLoop p.k l p = (l, p) := by
  cases hk : p.k with
  | zero => rfl
  | succ n =>
    rw [closeLoop, h]
theorem closeLoop_zero {l : List Dt} {p : Mk} (h : p.k = 0) : closeLoop p.k l p = (l, p) := by
  rw [h]
  rfl

theorem hit {Q : Exit → Act → World → Prop} {n : Nat} {a : Act} {w : World} (h : Q .normal a w) : Exit.inBlock n Q (.exit n) a w := by
  show if n = n then Q .normal a w else Q (.exit n) a w
  rw [if_pos rfl]
  exact h
theorem miss {Q : Exit → Act → World → Prop} {n m : Nat} {a : Act} {w : World} (hne : m ≠ n) (h : Q (.exit m) a w) : Exit.inBlock n Q (.exit m) a w := by
  show if m = n then Q .normal a w else Q (.exit m) a w
  rw [if_neg hne]
  exact h

noncomputable def c4 : Code := (findBlk 4 emB).getD .skip
def unloop : Code → Code
  | .loop c => c
  | c => c
noncomputable def l2 : Code := unloop c4
theorem c4_sq : c4 = .loop (.seq (fst l2) (.seq (.block 5 c5) (snd (snd l2)))) := rfl

def Fr16i (q d0 sv : Value) (D S i m kx : Nat) (J : Int) (a : Act) : Prop := ∃ v : Nat → Value, a = ⟨#[q, d0, sv, undef, .pointer (some ⟨D, 0, none⟩), undef, .slice none 0 0, .pointer (some ⟨S, 0, none⟩), .func (.func 159) #[] #[], .func (.func 160) #[] #[.pointer (some ⟨S, 0, none⟩), .pointer (some ⟨D, 0, none⟩)], .int .i64 i, v 11, v 12, .pointer (some ⟨m, 0, none⟩), v 14, .pointer (some ⟨S, kx, none⟩), .int .i64 J, v 17, v 18, v 19, v 20, v 21, .func (.func 160) #[] #[.pointer (some ⟨S, 0, none⟩), .pointer (some ⟨D, 0, none⟩)], v 23, v 24, v 25, v 26, v 27, v 28, v 29, v 30, v 31, v 32, v 33, v 34, v 35, v 36, v 37, v 38, v 39, v 40, v 41, v 42, v 43, v 44, v 45, v 46, v 47, v 48, v 49, v 50, v 51, v 52, v 53, v 54, v 55, v 56, v 57, v 58, v 59, v 60, v 61, v 62, v 63, v 64, v 65, v 66, v 67, v 68, v 69, v 70, v 71, v 72, v 73, v 74, v 75, v 76, v 77, v 78, v 79, v 80, v 81, v 82, v 83, v 84, v 85, v 86, v 87, v 88, v 89, v 90, v 91, v 92, v 93, v 94, v 95, v 96, v 97, v 98, v 99, v 100, v 101, v 102, v 103, v 104, v 105, v 106, v 107, v 108, v 109, v 110, v 111, v 112, v 113, v 114, v 115, v 116, v 117, v 118, v 119, v 120, v 121, v 122, v 123, v 124, v 125, v 126, v 127, v 128, v 129, v 130, v 131, v 132, v 133, v 134, v 135, v 136, v 137, v 138, v 139, v 140, v 141, v 142, v 143, v 144, v 145, v 146, v 147, v 148, v 149, v 150, v 151, v 152, v 153, v 154, v 155, v 156, v 157, v 158, v 159, v 160, v 161, v 162, v 163, v 164, v 165, v 166, v 167, v 168, v 169, v 170, v 171, v 172, v 173, v 174, v 175, v 176, v 177, v 178, v 179, v 180, v 181, v 182, v 183, v 184, v 185, v 186, v 187, v 188, v 189, v 190, v 191, v 192, v 193, v 194, v 195, v 196, v 197, v 198, v 199, v 200, v 201, v 202, v 203, v 204, v 205, v 206, v 207, v 208, v 209, v 210, v 211, v 212, v 213, v 214, v 215, v 216, v 217, v 218, v 219, v 220, v 221, v 222, v 223, v 224, v 225, v 226, v 227, v 228, v 229, v 230, v 231, v 232, v 233, v 234, v 235, v 236, v 237, v 238, v 239, v 240, v 241, v 242, v 243, v 244, v 245, v 246, v 247, v 248, v 249, v 250, v 251, v 252, v 253, v 254, v 255, v 256, v 257, v 258, v 259, v 260, v 261, v 262, v 263, v 264, v 265, v 266, v 267, v 268, v 269, v 270, v 271, v 272, v 273, v 274, v 275, v 276, v 277, v 278, v 279, v 280, v 281, v 282, v 283, v 284, v 285, v 286, v 287, v 288, v 289, v 290, v 291, v 292, v 293, v 294, v 295, v 296, v 297, v 298, v 299, v 300, v 301, v 302, v 303, v 304, v 305, v 306, v 307, v 308, v 309, v 310, v 311, v 312, v 313, v 314, v 315, v 316, v 317, v 318, v 319, v 320, v 321, v 322, v 323, v 324, v 325, v 326, v 327, v 328, v 329, v 330, v 331, v 332, v 333, v 334, v 335, v 336, v 337, v 338, v 339, v 340, v 341, v 342, v 343, v 344, v 345, v 346, v 347, v 348, v 349, v 350, v 351, v 352, v 353, v 354, v 355, v 356, v 357, v 358, v 359, v 360, v 361, v 362, v 363, v 364, v 365, v 366, v 367, v 368, v 369, v 370, v 371, v 372, v 373, v 374, v 375, v 376, v 377, v 378, v 379, v 380, v 381, v 382, v 383, v 384, v 385, v 386, v 387, v 388, v 389, v 390, v 391, v 392, v 393, v 394, v 395, v 396, v 397, v 398, v 399, v 400, v 401, v 402, v 403, v 404, v 405, v 406, v 407, v 408, v 409, v 410, v 411, v 412, v 413, v 414, v 415, v 416, v 417, v 418, v 419, v 420, v 421, v 422, v 423, v 424, v 425, v 426, v 427, v 428, v 429, v 430, v 431, v 432, v 433, v 434, v 435], []⟩

set_option maxRecDepth 100000 in
set_option maxHeartbeats 4000000 in
theorem r17 (q d0 sv : Value) (D S i m kx n : Nat) (w : World) (hn : n ≤ 1000000) (Q : Exit → Act → World → Prop) (h0 : n = 0 → ∀ a', Fr16i q d0 sv D S i m kx (-1) a' → Q (.exit 4) a' w) (h1 : ∀ k : Nat, n = k + 1 → ∀ a', Fr16i q d0 sv D S i m kx k a' → Q .normal a' w)
    (a : Act) (ha : Fr16i q d0 sv D S i m kx ((n : Int) - 1) a) : Code.wp Tryz.prog (fst l2) Q a w := by
  have H0 := Lib.hid h0
  have H1 := Lib.hid h1
  clear h0 h1
  rcases Nat.eq_zero_or_pos n with hz | hz
  · have H0' := H0.out hz
    clear H0 H1
    have H0 := Lib.hid H0'
    clear H0'
    subst hz
    rw [show ((0 : Nat) : Int) - 1 = -1 by omega] at ha
    obtain ⟨v, rfl⟩ := ha
    conv => arg 2; whnf
    go_wp2_with fail
    exact H0.out _ ⟨(fun d => cond (Nat.ble 86 d && Nat.ble d 87) (List.getD [_, _] (d - 86) undef) (v d)), rfl⟩
  · obtain ⟨k, rfl⟩ : ∃ k, n = k + 1 := ⟨n - 1, by omega⟩
    rw [show ((k + 1 : Nat) : Int) - 1 = (k : Int) by omega] at ha
    obtain ⟨v, rfl⟩ := ha
    conv => arg 2; whnf
    have c1 : (0 : Int) ≤ k := by omega
    go_wp2_with fail
    exact H1.out k rfl _ ⟨(fun d => cond (Nat.ble 86 d && Nat.ble d 87) (List.getD [_, _] (d - 86) undef) (v d)), rfl⟩

set_option maxRecDepth 100000 in
set_option maxHeartbeats 4000000 in
theorem r18 (q d0 sv : Value) (D S i m kx k : Nat) (w : World) (hk : k ≤ 1000000) (Q : Exit → Act → World → Prop) (h1 : ∀ a', Fr16i q d0 sv D S i m kx ((k : Int) - 1) a' → Q .normal a' w)
    (a : Act) (ha : Fr16i q d0 sv D S i m kx k a) : Code.wp Tryz.prog (snd (snd l2)) Q a w := by
  have H1 := Lib.hid h1
  clear h1
  obtain ⟨v, rfl⟩ := ha
  conv => arg 2; whnf
  have c1 : IntKind.i64.wrap ((k : Int) - 1) = (k : Int) - 1 := IntWalk.i64_in _ (by omega)
  go_wp2_with fail
  exact H1.out _ ⟨(fun d => cond (Nat.ble 88 d && Nat.ble d 89) (List.getD [_, _] (d - 88) undef) (v d)), rfl⟩

/-- The openers are looked at from the last one on. -/
theorem inner {E : EE} {w : World} {s : ES} (h : EmG E w s) (q d0 sv : Value) (i : Nat) (p : Mk) (hh : s.hand = [p]) (hp0 : 0 < p.k) (hcc : p.cc = true) (hlast : ∀ o, s.dst.getLast? = some (.mk o) → kIx o.c ≠ kIx p.c) (hlt : s.dst.length < s.i) (hin : s.i ≤ E.n) (hn6 : E.n ≤ 1000000)
    (Q : Exit → Act → World → Prop)
    (hnone : findOp (stkOf (kIx p.c) s.dst) p = none → ∀ a' w' J, Fr16i q d0 sv E.D E.S i p.m (kIx p.c) J a' → Same w w' → Q (.exit 4) a' w')
    (hsome : ∀ j o, findOp (stkOf (kIx p.c) s.dst) p = some (j, o) → ∀ a' w' da dc ys, Fr3 q d0 sv E.D E.S i p.m (kIx p.c) a' → EmG E w' (s.done j o p da dc ys) → Q (.exit 3) a' w')
    (a : Act) (ha : Fr16i q d0 sv E.D E.S i p.m (kIx p.c) (((stkOf (kIx p.c) s.dst).length : Int) - 1) a) : Code.wp Tryz.prog c4 Q a w := by
  have hstl : (stkOf (kIx p.c) s.dst).length ≤ 1000000 := by
    have h1 : (stkOf (kIx p.c) s.dst).length ≤ (marksFrom 0 s.dst).length := List.length_filter_le _ _
    have h2 : ∀ (l : List Dt) (j : Nat), (marksFrom j l).length ≤ l.length := by
      intro l
      induction l with
      | nil => intro j; simp [marksFrom]
      | cons x l ih => intro j; cases x <;> simp only [marksFrom, List.length_cons] <;> have := ih (j + 1) <;> omega
    have := h2 s.dst 0
    omega
  rw [c4_sq]
  refine wp_loop_ghost (fun m a' w' => Fr16i q d0 sv E.D E.S i p.m (kIx p.c) ((m : Int) - 1) a' ∧ Same w w' ∧ m ≤ (stkOf (kIx p.c) s.dst).length ∧ ∀ t x, m ≤ t → (stkOf (kIx p.c) s.dst)[t]? = some x → skips p x.2 = true) (stkOf (kIx p.c) s.dst).length ⟨ha, Mods.refl _ _, Nat.le_refl _, fun t x ht hx => by have := (List.getElem?_eq_some_iff.1 hx).1; omega⟩ ?_
  rintro m a1 w1 ⟨ha1, hw1, hml, hsk⟩
  refine wp_seq (r17 q d0 sv E.D E.S i p.m (kIx p.c) m w1 (by omega) _ (fun hm0 a2 ha2 => ?_) (fun k hk a2 ha2 => ?_) a1 ha1)
  · subst hm0
    exact hnone (findOp_none (fun t y hy => hsk t y (Nat.zero_le _) hy)) a2 w1 _ ha2 hw1
  · subst hk
    obtain ⟨⟨j, o⟩, hx⟩ : ∃ x, (stkOf (kIx p.c) s.dst)[k]? = some x := ⟨_, List.getElem?_eq_getElem (by omega)⟩
    have hmem := (List.mem_filter.1 (List.mem_of_getElem? hx))
    have hjo := (marksFrom_get s.dst 0 j o).1 hmem.1
    have hjd : s.dst[j]? = some (.mk o) := by simpa using hjo.2
    have hjl := (List.getElem?_eq_some_iff.1 hjd).1
    have hco : kIx o.c = kIx p.c := by simpa using hmem.2
    have hj1 : j + 1 < s.dst.length := by
      rcases Nat.lt_or_ge (j + 1) s.dst.length with h5 | h5
      · exact h5
      · exfalso
        refine hlast o ?_ hco
        rw [List.getLast?_eq_getElem?, show s.dst.length - 1 = j by omega]
        exact hjd
    refine wp_seq (wp_block ?_)
    refine look (h.same hw1) q d0 sv i k j p o hh hp0 hcc hx hj1 hlt hin hn6 _ (fun hs a3 w3 ha3 hw3 => hit ?_) (fun hs a3 w3 da dc ys ha3 hG => miss (by decide) ?_) a2 ha2
    · show Code.wp _ (snd (snd l2)) _ a3 w3
      refine r18 q d0 sv E.D E.S i p.m (kIx p.c) k w3 (by omega) _ (fun a4 ha4 => ⟨k, Nat.lt_succ_self _, ha4, hw1.trans hw3, by omega, fun t x ht hx' => ?_⟩) a3 ha3
      rcases Nat.eq_or_lt_of_le ht with e | e
      · subst e
        rw [hx] at hx'
        cases hx'
        exact hs
      · exact hsk t x e hx'
    · exact hsome j o (findOp_some hx hs (fun t y ht hy => hsk t y ht hy)) a3 w3 da dc ys ha3 hG
end Go.Proofs.YtmmopoofheblbaaGreatDoor.T

/- emph: a closer takes its openers, one by one. -/
namespace Go.Proofs.YtmmopoofheblbaaGreatDoor.T
open Go Go.RowKit Go.Proofs

def unblk : Code → Code
  | .block _ c => c
  | c => c
def thn : Code → Code
  | .cond _ a _ => a
  | c => c
def els : Code → Code
  | .cond _ _ b => b
  | c => c
def unscope : Code → Code
  | .scope c => c
  | c => c
noncomputable def c2 : Code := (findBlk 2 emB).getD .skip
noncomputable def c15 : Code := fst (unloop c2)
noncomputable def c16 : Code := fst (fst (unblk (snd (unloop c2))))
theorem c2_sq : c2 = .loop (.seq c15 (.block 3 (.seq (.seq c16 (.block 4 c4)) (.exit 2)))) := rfl

set_option maxRecDepth 100000 in
set_option maxHeartbeats 4000000 in
theorem r15 (q d0 sv : Value) (D S i kx : Nat) (p : Mk) (pi : Int) (w : World) (hp : MkAt w p pi) (Q : Exit → Act → World → Prop) (h0 : p.k = 0 → ∀ a', Fr3 q d0 sv D S i p.m kx a' → Q (.exit 2) a' w) (h1 : 0 < p.k → ∀ a', Fr3 q d0 sv D S i p.m kx a' → Q .normal a' w)
    (a : Act) (ha : Fr3 q d0 sv D S i p.m kx a) : Code.wp Tryz.prog c15 Q a w := by
  have x0 : w.cell? ⟨p.m, 0, none⟩ = some (.string (run p.c p.k)) := Blk.cell hp 0
  obtain ⟨v, rfl⟩ := ha
  conv => arg 2; whnf
  rcases Nat.eq_zero_or_pos p.k with hz | hz
  · have H0' := h0 hz
    rw [hz, run_nil] at x0
    have H0 := Lib.hid H0'
    clear H0' h0 h1 hz hp
    go_wp2_with fail
    exact H0.out _ ⟨(fun d => cond (Nat.ble 75 d && Nat.ble d 80) (List.getD [_, _, _, _, _, _] (d - 75) undef) (v d)), rfl⟩
  · have H1' := h1 hz
    have hsz : 0 < (run p.c p.k).size := by rw [run_size]; exact hz
    generalize run p.c p.k = tt at x0 hsz
    have hne := bs_ne hsz
    have hne2 : tt.toList ≠ [] := by intro e; rw [e] at hne; cases hne
    have H1 := Lib.hid H1'
    clear H1' h0 h1 hz hp
    go_wp2_with fail
    exact H1.out _ ⟨(fun d => cond (Nat.ble 75 d && Nat.ble d 80) (List.getD [_, _, _, _, _, _] (d - 75) undef) (v d)), rfl⟩

set_option maxRecDepth 100000 in
set_option maxHeartbeats 4000000 in
theorem r16 (q d0 sv : Value) (D S i m kx sn sc : Nat) (sa : Option Addr) (w : World) (k0 : w.cell? ⟨S, kx, none⟩ = some (.slice sa sn sc)) (hsn : sn ≤ 1000000) (Q : Exit → Act → World → Prop) (h1 : ∀ a', Fr16i q d0 sv D S i m kx ((sn : Int) - 1) a' → Q .normal a' w)
    (a : Act) (ha : Fr3 q d0 sv D S i m kx a) : Code.wp Tryz.prog c16 Q a w := by
  have H1 := Lib.hid h1
  clear h1
  obtain ⟨v, rfl⟩ := ha
  conv => arg 2; whnf
  have c1 : IntKind.i64.wrap ((sn : Int) - 1) = (sn : Int) - 1 := IntWalk.i64_in _ (by omega)
  go_wp2_with fail
  exact H1.out _ ⟨(fun d => cond (Nat.ble 81 d && Nat.ble d 85) (List.getD [_, _, _, _, _] (d - 81) undef) (v d)), rfl⟩

theorem Fr16i.fr3 {q d0 sv : Value} {D S i m kx : Nat} {J : Int} {a : Act} (h : Fr16i q d0 sv D S i m kx J a) : Fr3 q d0 sv D S i m kx a := by
  obtain ⟨v, rfl⟩ := h
  exact ⟨(fun d => cond (Nat.ble 16 d && Nat.ble d 16) (List.getD [_] (d - 16) undef) (v d)), rfl⟩

theorem S_cell {E : EE} {w : World} {s : ES} (h : EmG E w s) (q : Nat) (hq : q < 3) : w.cell? ⟨E.S, q, none⟩ = some (stkV s q) := by
  rw [h.r.S.cell]
  have h3 : q = 0 ∨ q = 1 ∨ q = 2 := by omega
  rcases h3 with h3 | h3 | h3 <;> rw [h3] <;> rfl
theorem stk_len (q : Nat) (l : List Dt) : (stkOf q l).length ≤ l.length := by
  have h1 : (stkOf q l).length ≤ (marksFrom 0 l).length := List.length_filter_le _ _
  have h2 : ∀ (l : List Dt) (j : Nat), (marksFrom j l).length ≤ l.length := by
    intro l
    induction l with
    | nil => intro j; simp [marksFrom]
    | cons x l ih => intro j; cases x <;> simp only [marksFrom, List.length_cons] <;> have := ih (j + 1) <;> omega
  have := h2 l 0
  omega

/-- What stays of a mark. -/
def SameMk (p p' : Mk) : Prop := p'.m = p.m ∧ p'.c = p.c ∧ p'.co = p.co ∧ p'.cc = p.cc ∧ p'.n = p.n
theorem SameMk.refl (p : Mk) : SameMk p p := ⟨rfl, rfl, rfl, rfl, rfl⟩

/-- What a closer's loop ends with. -/
def Ends (E : EE) (i : Nat) (l : List Dt) (p : Mk) (w : World) : Prop := ∃ s, EmG E w s ∧ s.hand = [p] ∧ s.dst = l ∧ s.i = i ∧ l.length < i

theorem outer {E : EE} {w : World} {s : ES} (h : EmG E w s) (q d0 sv : Value) (i : Nat) (p : Mk) (hh : s.hand = [p]) (hcc : p.cc = true) (hlast : ∀ o, s.dst.getLast? = some (.mk o) → kIx o.c ≠ kIx p.c) (hlt : s.dst.length < s.i) (hin : s.i ≤ E.n) (hn6 : E.n ≤ 1000000)
    (Q : Exit → Act → World → Prop)
    (hend : ∀ a' w', Fr3 q d0 sv E.D E.S i p.m (kIx p.c) a' → Ends E s.i (closeLoop p.k s.dst p).1 (closeLoop p.k s.dst p).2 w' → SameMk p (closeLoop p.k s.dst p).2 → Q (.exit 2) a' w')
    (a : Act) (ha : Fr3 q d0 sv E.D E.S i p.m (kIx p.c) a) : Code.wp Tryz.prog c2 Q a w := by
  rw [c2_sq]
  refine wp_loop_ghost (fun m a' w' => Fr3 q d0 sv E.D E.S i p.m (kIx p.c) a' ∧ ∃ s' p', EmG E w' s' ∧ s'.hand = [p'] ∧ SameMk p p' ∧ s'.i = s.i ∧ s'.dst.length < s'.i ∧ m = p'.k ∧ closeLoop p'.k s'.dst p' = closeLoop p.k s.dst p ∧ ∀ o, s'.dst.getLast? = some (.mk o) → kIx o.c ≠ kIx p.c) p.k ⟨ha, s, p, h, hh, SameMk.refl p, rfl, hlt, rfl, rfl, hlast⟩ ?_
  rintro m a1 w1 ⟨ha1, s1, p1, h1, hh1, hS1, hi1, hlt1, rfl, hcl, hlast1⟩
  obtain ⟨e1, e2, e3, e4, e5⟩ := hS1
  obtain ⟨_, pi, hp1⟩ := h1.r.hnd p1 (by rw [hh1]; exact List.mem_singleton_self _)
  have hdone : ∀ a2 w2, Fr3 q d0 sv E.D E.S i p.m (kIx p.c) a2 → Same w1 w2 → closeLoop p1.k s1.dst p1 = (s1.dst, p1) → Q (.exit 2) a2 w2 := by
    intro a2 w2 ha2 hw2 he
    rw [he] at hcl
    refine hend a2 w2 ha2 ?_ ?_
    · rw [← hcl]
      exact ⟨s1, h1.same hw2, hh1, rfl, hi1, by show s1.dst.length < s.i; omega⟩
    · rw [← hcl]
      exact ⟨e1, e2, e3, e4, e5⟩
  rw [← e1, ← e2] at ha1
  refine wp_seq (r15 q d0 sv E.D E.S i (kIx p1.c) p1 pi w1 hp1 _ (fun hz a2 ha2 => ?_) (fun hz a2 ha2 => ?_) a1 ha1)
  · rw [e1, e2] at ha2
    exact hdone a2 w1 ha2 (Mods.refl _ _) (closeLoop_zero hz)
  · refine wp_block (wp_seq (wp_seq ?_))
    have hsl := stk_len (kIx p1.c) s1.dst
    refine r16 q d0 sv E.D E.S i p1.m (kIx p1.c) (stkOf (kIx p1.c) s1.dst).length _ _ w1 (S_cell h1 _ (kIx_lt _)) (by omega) _ (fun a3 ha3 => ?_) a2 ha2
    refine wp_block ?_
    refine inner h1 q d0 sv i p1 hh1 hz (by rw [e4]; exact hcc) (fun o ho => by rw [e2]; exact hlast1 o ho) hlt1 (by omega) hn6 _ (fun hf a4 w4 J ha4 hw4 => hit ?_) (fun j o hf a4 w4 da dc ys ha4 hG => miss (by decide) ?_) a3 ha3
    · refine wp_exit (miss (by decide) ?_)
      have ha5 := ha4.fr3
      rw [e1, e2] at ha5
      exact hdone a4 w4 ha5 hw4 (closeLoop_end hf)
    · show Exit.inBlock 3 (Exit.then _ Q) (.exit 3) a4 w4
      refine hit ?_
      rw [e1, e2] at ha4
      have hmem := (List.mem_filter.1 (List.mem_reverse.1 (List.mem_of_find?_eq_some hf)))
      have hjo := (marksFrom_get s1.dst 0 j o).1 hmem.1
      have hjd : s1.dst[j]? = some (.mk o) := by simpa using hjo.2
      obtain ⟨_, _, _, ho0⟩ := h1.r.dstMk j o hjd
      obtain ⟨b1, b2, b3, b4⟩ := take2_le p1 o hz ho0
      have hjl := (List.getElem?_eq_some_iff.1 hjd).1
      have hco : kIx o.c = kIx p1.c := by simpa using hmem.2
      have hj1 : j + 1 < s1.dst.length := by
        rcases Nat.lt_or_ge (j + 1) s1.dst.length with h5 | h5
        · exact h5
        · exfalso
          refine hlast1 o ?_ (by rw [hco, e2])
          rw [List.getLast?_eq_getElem?, show s1.dst.length - 1 = j by omega]
          exact hjd
      have hcn := cut_len (p := p1) hjd
      refine ⟨p1.k - take2 p1 o, by omega, ha4, s1.done j o p1 da dc ys, { p1 with k := p1.k - take2 p1 o }, hG, rfl, ⟨e1, e2, e3, e4, e5⟩, hi1, ?_, rfl, ?_, ?_⟩
      · show (closeAt s1.dst j o p1).length < s1.i
        rw [closeAt_eq, List.length_append, hcn]
        simp only [List.length_singleton]
        split <;> omega
      · rw [← hcl]
        exact (closeLoop_step hz hf).symm
      · intro o' ho'
        have h9 : (s1.done j o p1 da dc ys).dst = closeAt s1.dst j o p1 := rfl
        rw [h9, closeAt_eq, List.getLast?_concat] at ho'
        cases ho'

noncomputable def c1 : Code := (findBlk 1 emB).getD .skip
noncomputable def c13 : Code := fst (snd (snd (snd c1)))
noncomputable def c14 : Code := fst (unscope (thn (snd c13)))

theorem c13_sq : c13 = .seq (fst c13) (.cond (.tmp 65) (.scope (.seq c14 (.seq (.label 1) (.block 2 c2)))) .skip) := rfl

def Fr13 (q d0 sv : Value) (D S i m : Nat) (a : Act) : Prop := ∃ v : Nat → Value, a = ⟨#[q, d0, sv, undef, .pointer (some ⟨D, 0, none⟩), undef, .slice none 0 0, .pointer (some ⟨S, 0, none⟩), .func (.func 159) #[] #[], .func (.func 160) #[] #[.pointer (some ⟨S, 0, none⟩), .pointer (some ⟨D, 0, none⟩)], .int .i64 i, v 11, v 12, .pointer (some ⟨m, 0, none⟩), v 14, v 15, v 16, v 17, v 18, v 19, v 20, v 21, .func (.func 160) #[] #[.pointer (some ⟨S, 0, none⟩), .pointer (some ⟨D, 0, none⟩)], v 23, v 24, v 25, v 26, v 27, v 28, v 29, v 30, v 31, v 32, v 33, v 34, v 35, v 36, v 37, v 38, v 39, v 40, v 41, v 42, v 43, v 44, v 45, v 46, v 47, v 48, v 49, v 50, v 51, v 52, v 53, v 54, v 55, v 56, v 57, v 58, v 59, v 60, v 61, v 62, v 63, v 64, v 65, v 66, v 67, v 68, v 69, v 70, v 71, v 72, v 73, v 74, v 75, v 76, v 77, v 78, v 79, v 80, v 81, v 82, v 83, v 84, v 85, v 86, v 87, v 88, v 89, v 90, v 91, v 92, v 93, v 94, v 95, v 96, v 97, v 98, v 99, v 100, v 101, v 102, v 103, v 104, v 105, v 106, v 107, v 108, v 109, v 110, v 111, v 112, v 113, v 114, v 115, v 116, v 117, v 118, v 119, v 120, v 121, v 122, v 123, v 124, v 125, v 126, v 127, v 128, v 129, v 130, v 131, v 132, v 133, v 134, v 135, v 136, v 137, v 138, v 139, v 140, v 141, v 142, v 143, v 144, v 145, v 146, v 147, v 148, v 149, v 150, v 151, v 152, v 153, v 154, v 155, v 156, v 157, v 158, v 159, v 160, v 161, v 162, v 163, v 164, v 165, v 166, v 167, v 168, v 169, v 170, v 171, v 172, v 173, v 174, v 175, v 176, v 177, v 178, v 179, v 180, v 181, v 182, v 183, v 184, v 185, v 186, v 187, v 188, v 189, v 190, v 191, v 192, v 193, v 194, v 195, v 196, v 197, v 198, v 199, v 200, v 201, v 202, v 203, v 204, v 205, v 206, v 207, v 208, v 209, v 210, v 211, v 212, v 213, v 214, v 215, v 216, v 217, v 218, v 219, v 220, v 221, v 222, v 223, v 224, v 225, v 226, v 227, v 228, v 229, v 230, v 231, v 232, v 233, v 234, v 235, v 236, v 237, v 238, v 239, v 240, v 241, v 242, v 243, v 244, v 245, v 246, v 247, v 248, v 249, v 250, v 251, v 252, v 253, v 254, v 255, v 256, v 257, v 258, v 259, v 260, v 261, v 262, v 263, v 264, v 265, v 266, v 267, v 268, v 269, v 270, v 271, v 272, v 273, v 274, v 275, v 276, v 277, v 278, v 279, v 280, v 281, v 282, v 283, v 284, v 285, v 286, v 287, v 288, v 289, v 290, v 291, v 292, v 293, v 294, v 295, v 296, v 297, v 298, v 299, v 300, v 301, v 302, v 303, v 304, v 305, v 306, v 307, v 308, v 309, v 310, v 311, v 312, v 313, v 314, v 315, v 316, v 317, v 318, v 319, v 320, v 321, v 322, v 323, v 324, v 325, v 326, v 327, v 328, v 329, v 330, v 331, v 332, v 333, v 334, v 335, v 336, v 337, v 338, v 339, v 340, v 341, v 342, v 343, v 344, v 345, v 346, v 347, v 348, v 349, v 350, v 351, v 352, v 353, v 354, v 355, v 356, v 357, v 358, v 359, v 360, v 361, v 362, v 363, v 364, v 365, v 366, v 367, v 368, v 369, v 370, v 371, v 372, v 373, v 374, v 375, v 376, v 377, v 378, v 379, v 380, v 381, v 382, v 383, v 384, v 385, v 386, v 387, v 388, v 389, v 390, v 391, v 392, v 393, v 394, v 395, v 396, v 397, v 398, v 399, v 400, v 401, v 402, v 403, v 404, v 405, v 406, v 407, v 408, v 409, v 410, v 411, v 412, v 413, v 414, v 415, v 416, v 417, v 418, v 419, v 420, v 421, v 422, v 423, v 424, v 425, v 426, v 427, v 428, v 429, v 430, v 431, v 432, v 433, v 434, v 435], []⟩
theorem Fr3.fr13 {q d0 sv : Value} {D S i m kx : Nat} {a : Act} (h : Fr3 q d0 sv D S i m kx a) : Fr13 q d0 sv D S i m a := by
  obtain ⟨v, rfl⟩ := h
  exact ⟨(fun d => cond (Nat.ble 15 d && Nat.ble d 15) (List.getD [_] (d - 15) undef) (v d)), rfl⟩

theorem stackOf_c (c : UInt8) (hc : McOk c) (w : World) : Calls Tryz.prog 159 #[.int .u8 c.toNat] w fun e w' => e = .returned (.int .i64 (kIx c)) ∧ w = w' := by
  go_enter Tryz.func159, Tryz.ntmps159
  go_wp2_with fail
  refine (ixB ⟨#[95, 42, 126, 34, 39]⟩ c w).mono ?_
  rintro e w' ⟨rfl, rfl⟩
  go_wp2_with fail
  go_ret
  refine ⟨?_, rfl⟩
  rcases hc with rfl | rfl | rfl <;> rfl

set_option maxRecDepth 100000 in
set_option maxHeartbeats 4000000 in
theorem r13 (q d0 sv : Value) (D S i m : Nat) (b : Bool) (w : World) (x2 : w.cell? ⟨m, 2, none⟩ = some (.bool b)) (Q : Exit → Act → World → Prop) (h1 : ∀ a', Fr13 q d0 sv D S i m a' → a'.eval (.tmp 65) = .bool b → Q .normal a' w)
    (a : Act) (ha : Fr13 q d0 sv D S i m a) : Code.wp Tryz.prog (fst c13) Q a w := by
  have H1 := Lib.hid h1
  clear h1
  obtain ⟨v, rfl⟩ := ha
  conv => arg 2; whnf
  go_wp2_with fail
  exact H1.out _ ⟨(fun d => cond (Nat.ble 62 d && Nat.ble d 65) (List.getD [_, _, _, _] (d - 62) undef) (v d)), rfl⟩ rfl

set_option maxRecDepth 100000 in
set_option maxHeartbeats 4000000 in
theorem r14 (q d0 sv : Value) (D S i : Nat) (p : Mk) (pi : Int) (w : World) (hp : MkAt w p pi) (hc : McOk p.c) (hk : 0 < p.k) (hS : ∃ cs T, Blk w S cs T) (Q : Exit → Act → World → Prop) (h1 : ∀ a', Fr3 q d0 sv D S i p.m (kIx p.c) a' → Q .normal a' w)
    (a : Act) (ha : Fr13 q d0 sv D S i p.m a) : Code.wp Tryz.prog c14 Q a w := by
  have x0 : w.cell? ⟨p.m, 0, none⟩ = some (.string (run p.c p.k)) := Blk.cell hp 0
  have hsz : 0 < (run p.c p.k).size := by rw [run_size]; exact hk
  have u0 : ∀ h : 0 < (run p.c p.k).size, (((run p.c p.k)[0]'h).toNat : Int) = p.c.toNat := fun h => by rw [run_get]
  have hst := stackOf_c p.c hc w
  have hkx := kIx_lt p.c
  generalize run p.c p.k = tt at x0 hsz u0
  generalize p.c.toNat = cn at u0 hst
  generalize kIx p.c = kx at hkx hst h1 ⊢
  have H1 := Lib.hid h1
  have HT := Lib.hid hst
  clear h1 hst hp hk hc
  have c1 : (0 : Int) ≤ kx := by omega
  have c2 : (kx : Int) < 5 := by omega
  obtain ⟨v, rfl⟩ := ha
  conv => arg 2; whnf
  go_wp2_with fail
  refine HT.out.mono ?_
  rintro e w' ⟨rfl, rfl⟩
  go_wp2_with fail
  exact H1.out _ ⟨(fun d => cond (Nat.ble 66 d && Nat.ble d 74) (List.getD [_, _, _, _, _, _, _, _, _] (d - 66) undef) (v d)), rfl⟩

/-- A mark that closes. -/
theorem closing {E : EE} {w : World} {s : ES} (h : EmG E w s) (q d0 sv : Value) (i : Nat) (p : Mk) (hh : s.hand = [p]) (hp0 : 0 < p.k) (hlast : ∀ o, s.dst.getLast? = some (.mk o) → kIx o.c ≠ kIx p.c) (hlt : s.dst.length < s.i) (hin : s.i ≤ E.n) (hn6 : E.n ≤ 1000000)
    (Q : Exit → Act → World → Prop)
    (hend : ∀ a' w', Fr13 q d0 sv E.D E.S i p.m a' → Ends E s.i (closed s.dst p).1 (closed s.dst p).2 w' → SameMk p (closed s.dst p).2 → Q .normal a' w')
    (a : Act) (ha : Fr13 q d0 sv E.D E.S i p.m a) : Code.wp Tryz.prog c13 Q a w := by
  obtain ⟨hok, pi, hpA⟩ := h.r.hnd p (by rw [hh]; exact List.mem_singleton_self _)
  rw [c13_sq]
  refine wp_seq (r13 q d0 sv E.D E.S i p.m p.cc w (Blk.cell hpA 2) _ (fun a1 ha1 he => ?_) a ha)
  refine wp_cond he ?_
  cases hcc : p.cc with
  | false =>
    have hcl : closed s.dst p = (s.dst, p) := by unfold closed; rw [hcc]; rfl
    refine wp_skip (hend a1 w ha1 ?_ ?_)
    · rw [hcl]
      exact ⟨s, h, hh, rfl, rfl, hlt⟩
    · rw [hcl]
      exact SameMk.refl p
  | true =>
    have hcl : closed s.dst p = closeLoop p.k s.dst p := by unfold closed; rw [hcc]; rfl
    rw [hcl] at hend
    refine wp_scope_straight (wp_seq (r14 q d0 sv E.D E.S i p pi w hpA hok.1 hp0 ⟨_, _, h.r.S⟩ _ (fun a2 ha2 => ?_) a1 ha1))
    refine wp_seq (wp_label ?_)
    refine wp_block (outer h q d0 sv i p hh hcc hlast hlt hin hn6 _ (fun a3 w3 ha3 hE hS => hit ?_) a2 ha2)
    exact hend a3 w3 ha3.fr13 hE hS
end Go.Proofs.YtmmopoofheblbaaGreatDoor.T

/- emph: what is left of a mark goes behind what was made. -/
namespace Go.Proofs.YtmmopoofheblbaaGreatDoor.T
open Go Go.RowKit Go.Proofs

noncomputable def c49 : Code := snd (snd (snd (snd c1)))

def FrM (q d0 sv : Value) (D S i : Nat) (a : Act) : Prop := ∃ v : Nat → Value, a = ⟨#[q, d0, sv, undef, .pointer (some ⟨D, 0, none⟩), undef, .slice none 0 0, .pointer (some ⟨S, 0, none⟩), .func (.func 159) #[] #[], .func (.func 160) #[] #[.pointer (some ⟨S, 0, none⟩), .pointer (some ⟨D, 0, none⟩)], .int .i64 i, v 11, v 12, v 13, v 14, v 15, v 16, v 17, v 18, v 19, v 20, v 21, .func (.func 160) #[] #[.pointer (some ⟨S, 0, none⟩), .pointer (some ⟨D, 0, none⟩)], v 23, v 24, v 25, v 26, v 27, v 28, v 29, v 30, v 31, v 32, v 33, v 34, v 35, v 36, v 37, v 38, v 39, v 40, v 41, v 42, v 43, v 44, v 45, v 46, v 47, v 48, v 49, v 50, v 51, v 52, v 53, v 54, v 55, v 56, v 57, v 58, v 59, v 60, v 61, v 62, v 63, v 64, v 65, v 66, v 67, v 68, v 69, v 70, v 71, v 72, v 73, v 74, v 75, v 76, v 77, v 78, v 79, v 80, v 81, v 82, v 83, v 84, v 85, v 86, v 87, v 88, v 89, v 90, v 91, v 92, v 93, v 94, v 95, v 96, v 97, v 98, v 99, v 100, v 101, v 102, v 103, v 104, v 105, v 106, v 107, v 108, v 109, v 110, v 111, v 112, v 113, v 114, v 115, v 116, v 117, v 118, v 119, v 120, v 121, v 122, v 123, v 124, v 125, v 126, v 127, v 128, v 129, v 130, v 131, v 132, v 133, v 134, v 135, v 136, v 137, v 138, v 139, v 140, v 141, v 142, v 143, v 144, v 145, v 146, v 147, v 148, v 149, v 150, v 151, v 152, v 153, v 154, v 155, v 156, v 157, v 158, v 159, v 160, v 161, v 162, v 163, v 164, v 165, v 166, v 167, v 168, v 169, v 170, v 171, v 172, v 173, v 174, v 175, v 176, v 177, v 178, v 179, v 180, v 181, v 182, v 183, v 184, v 185, v 186, v 187, v 188, v 189, v 190, v 191, v 192, v 193, v 194, v 195, v 196, v 197, v 198, v 199, v 200, v 201, v 202, v 203, v 204, v 205, v 206, v 207, v 208, v 209, v 210, v 211, v 212, v 213, v 214, v 215, v 216, v 217, v 218, v 219, v 220, v 221, v 222, v 223, v 224, v 225, v 226, v 227, v 228, v 229, v 230, v 231, v 232, v 233, v 234, v 235, v 236, v 237, v 238, v 239, v 240, v 241, v 242, v 243, v 244, v 245, v 246, v 247, v 248, v 249, v 250, v 251, v 252, v 253, v 254, v 255, v 256, v 257, v 258, v 259, v 260, v 261, v 262, v 263, v 264, v 265, v 266, v 267, v 268, v 269, v 270, v 271, v 272, v 273, v 274, v 275, v 276, v 277, v 278, v 279, v 280, v 281, v 282, v 283, v 284, v 285, v 286, v 287, v 288, v 289, v 290, v 291, v 292, v 293, v 294, v 295, v 296, v 297, v 298, v 299, v 300, v 301, v 302, v 303, v 304, v 305, v 306, v 307, v 308, v 309, v 310, v 311, v 312, v 313, v 314, v 315, v 316, v 317, v 318, v 319, v 320, v 321, v 322, v 323, v 324, v 325, v 326, v 327, v 328, v 329, v 330, v 331, v 332, v 333, v 334, v 335, v 336, v 337, v 338, v 339, v 340, v 341, v 342, v 343, v 344, v 345, v 346, v 347, v 348, v 349, v 350, v 351, v 352, v 353, v 354, v 355, v 356, v 357, v 358, v 359, v 360, v 361, v 362, v 363, v 364, v 365, v 366, v 367, v 368, v 369, v 370, v 371, v 372, v 373, v 374, v 375, v 376, v 377, v 378, v 379, v 380, v 381, v 382, v 383, v 384, v 385, v 386, v 387, v 388, v 389, v 390, v 391, v 392, v 393, v 394, v 395, v 396, v 397, v 398, v 399, v 400, v 401, v 402, v 403, v 404, v 405, v 406, v 407, v 408, v 409, v 410, v 411, v 412, v 413, v 414, v 415, v 416, v 417, v 418, v 419, v 420, v 421, v 422, v 423, v 424, v 425, v 426, v 427, v 428, v 429, v 430, v 431, v 432, v 433, v 434, v 435], []⟩

set_option maxRecDepth 100000 in
set_option maxHeartbeats 4000000 in
theorem r49_zero (q d0 sv : Value) (D S i m : Nat) (w : World) (x0 : w.cell? ⟨m, 0, none⟩ = some (.string ⟨#[]⟩)) (Q : Exit → Act → World → Prop) (h1 : ∀ a', FrM q d0 sv D S i a' → Q .normal a' w)
    (a : Act) (ha : Fr13 q d0 sv D S i m a) : Code.wp Tryz.prog c49 Q a w := by
  have H1 := Lib.hid h1
  clear h1
  obtain ⟨v, rfl⟩ := ha
  conv => arg 2; whnf
  go_wp2_with fail
  exact H1.out _ ⟨(fun d => cond (Nat.ble 13 d && Nat.ble d 13) (List.getD [_] (d - 13) undef) (cond (Nat.ble 363 d && Nat.ble d 368) (List.getD [_, _, _, _, _, _] (d - 363) undef) (v d))), rfl⟩

set_option maxRecDepth 100000 in
set_option maxHeartbeats 8000000 in
theorem r49_plain (q d0 sv : Value) (D S i m kx cn : Nat) (tt : ByteArray) (w : World) (B : Array Value) (hB : Blk w m B 268) (b0 : B[0]? = some (.string tt)) (b1 : B[1]? = some (.bool false)) (ht : 0 < tt.size) (u0 : ∀ h : 0 < tt.size, ((tt[0]'h).toNat : Int) = cn) (hq1 : (tt.toList == [39]) = false) (hq2 : (tt.toList == [34]) = false) (hkx : kx < 3) (hst : ∀ w, Calls Tryz.prog 159 #[.int .u8 cn] w fun e w' => e = .returned (.int .i64 kx) ∧ w = w') 
    (inp : Bool) (sg so sc n si : Nat) (xs ys : List Value) (da : Option Addr) (dc : Nat) (hD : Blk w D #[.slice da ys.length dc] 84) (hL : Lst w inp sg so sc n xs si (.slice da ys.length dc) ys) (hyi : ys.length < si) (hin : si ≤ n) (hn : n ≤ 1000000)
    (R : Act → World → Prop)
    (hnext : ∀ a' w1 w2 g dc', FrM q d0 sv D S i a' → Same w w1 → Lst w2 inp sg so sc n xs si (.slice (some ⟨g, 0, none⟩) (ys.length + 1) dc') (ys ++ [.iface 224 (.pointer (some ⟨m, 0, none⟩))]) →
      Mods (fun k => (Value.slice da ys.length dc).ownBlock = some k) w1 w2 → ((Value.slice da ys.length dc).ownBlock = some g ∨ g = w1.heap.size) → R a' (w2.setCell ⟨D, 0, none⟩ (.slice (some ⟨g, 0, none⟩) (ys.length + 1) dc')))
    (a : Act) (ha : Fr13 q d0 sv D S i m a) : Code.wp Tryz.prog c49 (fun e a' w' => e = .normal ∧ R a' w') a w := by
  have HN := Lib.hid hnext
  have HT := Lib.hid hst
  have x0 : w.cell? ⟨m, 0, none⟩ = some (.string tt) := (hB.cell 0).trans b0
  have x1 : w.cell? ⟨m, 1, none⟩ = some (.bool false) := (hB.cell 1).trans b1
  have k0 : w.cell? ⟨D, 0, none⟩ = some (.slice da ys.length dc) := hD.cell 0
  have k1 := hD.fr 0
  have k2 := hD.lt
  have hne := bs_ne ht
  have hne2 : tt.toList ≠ [] := by intro e; rw [e] at hne; cases hne
  have c1 : (0 : Int) ≤ kx := by omega
  have c2 : (kx : Int) < 5 := by omega
  clear hnext b0 b1 hst
  obtain ⟨v, rfl⟩ := ha
  conv => arg 2; whnf
  go_wp2_with fail
  refine (HT.out _).mono ?_
  rintro e w' ⟨rfl, rfl⟩
  go_wp2_with fail
  clear x0 x1 hne hne2 hq1 hq2 u0
  have hSd : ∀ o, Same w ((w.alloc o).drew) := fun o => ((Mods.refl (fun _ => False) w).alloc o).drew
  first | go_region_law (refine st_dst' rfl (.tmp 428) (.tmp 433) rfl (hL.same (hSd _)) hyi hin hn 224 (.pointer (some ⟨m, 0, none⟩)) w.heap.size 1 rfl rfl ((Blk.drew (Blk.newAt _ _ rfl)).cell 0) ?_; intro g dc' w2 hL2 hm2 hloc; have hD2 := (Same.blk (hSd (.cells #[.iface 224 (.pointer (some ⟨m, 0, none⟩))] 157)) hD).keep hm2 (fun e => own_ne hL.row hD (by decide) e); have k0' := hD2.cell 0; have k1' := hD2.fr 0; have k2' := hD2.lt) | fail
  all_goals
    go_wp2_with fail
    exact HN.out _ _ _ g dc' ⟨(fun d => cond (Nat.ble 13 d && Nat.ble d 21) (List.getD [_, _, _, _, _, _, _, _, _] (d - 13) undef) (cond (Nat.ble 363 d && Nat.ble d 434) (cond (Nat.ble d 394) (cond (Nat.ble d 378) (List.getD [_, _, _, _, _, _, _, _, _, _, _, _, _, _, _, _] (d - 363) undef) (List.getD [_, _, _, _, _, _, _, _, _, _, _, _, _, _, _, _] (d - 379) undef)) (cond (Nat.ble d 410) (List.getD [_, _, _, _, _, _, _, _, _, _, _, _, _, _, _, _] (d - 395) undef) (cond (Nat.ble d 426) (List.getD [_, _, _, _, _, _, _, _, _, _, _, _, _, _, _, _] (d - 411) undef) (List.getD [_, _, _, _, _, _, _, _] (d - 427) undef)))) (v d))), rfl⟩ (hSd _) hL2 hm2 (hloc.imp (fun e => e) (fun e => e.trans (by simp)))
end Go.Proofs.YtmmopoofheblbaaGreatDoor.T

/- emph: a mark that opens goes behind what was made, and on its stack. -/
namespace Go.Proofs.YtmmopoofheblbaaGreatDoor.T
open Go Go.RowKit Go.Proofs

/-- What the list's growth leaves of the rest. -/
theorem EmG.rest {E : EE} {w w1 w2 : World} {s : ES} (h : EmG E w s) (h1 : Same w w1) (hm : Mods (fun k => (Value.slice s.da s.ys.length s.dc).ownBlock = some k) w1 w2) (v : Value) : EmR E (w2.setCell ⟨E.D, 0, none⟩ v) s := by
  have hR := h.r
  have hm2 : Mods (fun k => (Value.slice s.da s.ys.length s.dc).ownBlock = some k ∨ k = E.D) w w2 :=
    (h1.mono (S' := fun k => (Value.slice s.da s.ys.length s.dc).ownBlock = some k ∨ k = E.D) (fun _ _ x => absurd x (fun x => x))).then hm (fun _ _ x => Or.inl x)
  have hm3 := hm2.setCell (p := ⟨E.D, 0, none⟩) (fun _ => Or.inr rfl) v
  refine hR.keep hm3 ?_ ?_
  · rintro b cs T hb (hx | hx)
    · refine Or.inr ⟨?_, own_some hx⟩
      obtain ⟨cur, hc⟩ := row_blk h.lst.row hx
      unfold Blk at hb hc
      rw [hb] at hc
      cases hc
      rfl
    · subst hx
      have hd := h.D
      unfold Blk at hb hd
      rw [hb] at hd
      cases hd
      exact Or.inl rfl
  · rintro b hb (hx | hx)
    · obtain ⟨a, ha, rfl⟩ := own_some hx
      exact (hR.fd a ha).elim (fun x => x) (fun x => by omega)
    · subst hx
      have := hR.fD
      omega

theorem EmR.Scell {E : EE} {w : World} {s : ES} (h : EmR E w s) (q : Nat) (hq : q < 3) : w.cell? ⟨E.S, q, none⟩ = some (stkV s q) ∧ w.frozen? ⟨E.S, q, none⟩ = false ∧ E.S < w.heap.size := by
  refine ⟨?_, h.S.fr q, h.S.lt⟩
  rw [h.S.cell]
  have h3 : q = 0 ∨ q = 1 ∨ q = 2 := by omega
  rcases h3 with h3 | h3 | h3 <;> rw [h3] <;> rfl

set_option maxRecDepth 100000 in
set_option maxHeartbeats 8000000 in
theorem r49_mark {E : EE} {w : World} {s : ES} (h : EmG E w s) (q d0 sv : Value) (i : Nat) (p : Mk) (hh : s.hand = [p]) (hk0 : 0 < p.k) (hco : p.co = true) (hlt : s.dst.length < s.i) (hin : s.i ≤ E.n) (hn6 : E.n ≤ 1000000)
    (Q : Exit → Act → World → Prop) (hnext : ∀ a' w' g dc g' c', FrM q d0 sv E.D E.S i a' → EmG E w' (s.push p g dc g' c') → Q .normal a' w')
    (a : Act) (ha : Fr13 q d0 sv E.D E.S i p.m a) : Code.wp Tryz.prog c49 Q a w := by
  have HN := Lib.hid hnext
  obtain ⟨hok, pi, hpA⟩ := h.r.hnd p (by rw [hh]; exact List.mem_singleton_self _)
  have hq3 := kIx_lt p.c
  have hcl : (stkOf (kIx p.c) s.dst).length ≤ 1000000 := by have := stk_len (kIx p.c) s.dst; omega
  have hT0 : ∀ w, Calls Tryz.prog 159 #[.int .u8 p.c.toNat] w fun e w' => e = .returned (.int .i64 (kIx p.c)) ∧ w = w' := fun w => stackOf_c p.c hok.1 w
  have x0 : w.cell? ⟨p.m, 0, none⟩ = some (.string (run p.c p.k)) := Blk.cell hpA 0
  have x1 : w.cell? ⟨p.m, 1, none⟩ = some (.bool true) := (Blk.cell hpA 1).trans (by rw [← hco]; rfl)
  have x5 : w.cell? ⟨p.m, 3, none⟩ = some (.int .i64 pi) := Blk.cell hpA 3
  have x3 := Blk.fr hpA 3
  have x4 := Blk.lt hpA
  have ht : 0 < (run p.c p.k).size := by rw [run_size]; exact hk0
  have u0 : ∀ h : 0 < (run p.c p.k).size, (((run p.c p.k)[0]'h).toNat : Int) = p.c.toNat := fun h => by rw [run_get]
  have hq12 : ((run p.c p.k).toList == [39]) = false ∧ ((run p.c p.k).toList == [34]) = false := by
    obtain ⟨n, hn⟩ : ∃ n, p.k = n + 1 := ⟨p.k - 1, by omega⟩
    have e : (run p.c p.k).toList = p.c :: List.replicate n p.c := by
      rw [ByteArray.toList_eq, hn]
      show (List.replicate (n + 1) p.c).toArray.toList = _
      simp [List.replicate_succ]
    rw [e]
    rcases hok.1 with hc | hc | hc <;> rw [hc] <;> constructor <;> rfl
  obtain ⟨hq1, hq2⟩ := hq12
  have HSP := Lib.hid (h.setPlace p hh (s.ys.length : Int) (by omega))
  have k0 : w.cell? ⟨E.D, 0, none⟩ = some (.slice s.da s.ys.length s.dc) := h.D.cell 0
  have hylen := h.r.len
  have HST := Lib.hid (h.r.Scell (kIx p.c) hq3)
  generalize hrun : run p.c p.k = tt at x0 ht u0 hq1 hq2
  generalize hcn : p.c.toNat = cn at u0 hT0
  have hne := bs_ne ht
  have hne2 : tt.toList ≠ [] := by intro e; rw [e] at hne; cases hne
  generalize hkx : kIx p.c = kx at *
  have c1 : (0 : Int) ≤ kx := by omega
  have c2 : (kx : Int) < 5 := by omega
  have HK := Lib.hid hkx
  have HT := Lib.hid hT0
  clear hT0
  have HH := Lib.hid hh
  have HL := Lib.hid hylen
  clear hnext hrun hcn hkx hh hylen hco hpA
  obtain ⟨v, rfl⟩ := ha
  conv => arg 2; whnf
  go_wp2_with fail
  refine (HT.out _).mono ?_
  rintro e w' ⟨rfl, rfl⟩
  go_upto_region 59 with (fail)
  have hsp := HSP.out
  generalize (World.setCell w _ _ : World) = w1 at hsp ⊢
  obtain ⟨h1, hp1⟩ := hsp
  clear x0 x1 x3 x4 x5 k0 HSP HST
  have k0 : w1.cell? ⟨E.D, 0, none⟩ = some (.slice s.da s.ys.length s.dc) := h1.D.cell 0
  have k1 := h1.D.fr 0
  have k2 := h1.D.lt
  have hS1 : ∀ o, Same w1 (w1.alloc o) := fun o => (Mods.refl (fun _ => False) w1).alloc o
  go_wp2_with (at_builtin; refine wl_dst' rfl (.tmp 415) (.tmp 418) rfl (h1.lst.same (hS1 _)) (by have := HL.out; omega) hin hn6 266 (.pointer (some ⟨p.m, 0, none⟩)) w1.heap.size 1 rfl rfl ((Blk.newAt _ _ rfl).cell 0) ?_)
  intro g dc' w2 hL2 hm2 hloc
  have hD2 := (h1.D.alloc (.cells #[.iface 266 (.pointer (some ⟨p.m, 0, none⟩))] 157)).keep hm2 (fun e => own_ne h1.lst.row h1.D (by decide) e)
  clear k0 k1 k2
  have k0 := hD2.cell 0
  have k1 := hD2.fr 0
  have k2 := hD2.lt
  go_upto_region 60 with (fail)
  have hR3 := h1.rest (hS1 _) hm2 (.slice (some ⟨g, 0, none⟩) (s.ys.length + 1) dc')
  generalize hW3 : (World.setCell w2 ⟨E.D, 0, none⟩ _ : World) = w3 at hR3 ⊢
  clear k0 k1 k2
  obtain ⟨y0, y1, y2⟩ := hR3.Scell kx hq3
  have hS3 : ∀ o, Same w3 (w3.alloc o) := fun o => (Mods.refl (fun _ => False) w3).alloc o
  unfold stkV at y0
  go_wp2_with (at_builtin; refine ap_mark rfl (.tmp 423) (.tmp 425) rfl (.slice (s.ka kx) (stkOf kx s.dst).length (s.kc kx)) (stkOf kx s.dst).length ((stkOf kx s.dst).map ptrOf) rfl (ownsRow_keep (hR3.stk kx hq3) (hS3 _) (fun _ _ x => x)) w3.heap.size 1 (some ⟨p.m, 0, none⟩) rfl ((Blk.newAt _ _ rfl).cell 0) hcl ?_)
  intro sg sc w4 hrow4 hgrow hloc4
  have hm4 := grown_mods hgrow
  have hR3a := hR3.same (hS3 (.cells #[.pointer (some ⟨p.m, 0, none⟩)] 266))
  have hSb := hR3a.S.keep hm4 (fun e => own_ne (hR3a.stk kx hq3) hR3a.S (by decide) e)
  clear y0 y1 y2
  have y1 := hSb.fr kx
  have y2 := hSb.lt
  obtain ⟨z0, hz0⟩ : ∃ z0, w4.cell? ⟨E.S, kx, none⟩ = some z0 := by
    rw [hSb.cell]
    have h3 : kx = 0 ∨ kx = 1 ∨ kx = 2 := by omega
    rcases h3 with h3 | h3 | h3 <;> rw [h3] <;> exact ⟨_, rfl⟩
  go_wp2_with fail
  have hkk := HK.out
  have hP := EmG.pushMk (w1 := w1.alloc (.cells #[.iface 266 (.pointer (some ⟨p.m, 0, none⟩))] 157)) (w2 := w2) (w3 := w3.alloc (.cells #[.pointer (some ⟨p.m, 0, none⟩)] 266)) (w4 := w4) h1 p HH.out (by rw [← HL.out]; exact hp1) hk0 g dc' sg sc (hS1 _) hlt (by omega) hL2 hm2 (hloc.imp (fun e => e) (fun e => e.trans (by simp))) (by rw [hW3]; exact hS3 _)
    (by rw [hkk]; exact hrow4) (by rw [hkk]; exact hm4) (by rw [hkk]; exact hloc4.imp (fun e => e) (fun e => e.trans (by simp)))
  rw [hkk] at hP
  exact HN.out _ _ g dc' sg sc ⟨(fun d => cond (Nat.ble 13 d && Nat.ble d 21) (List.getD [_, _, _, _, _, _, _, _, _] (d - 13) undef) (cond (Nat.ble 363 d && Nat.ble d 434) (cond (Nat.ble d 394) (cond (Nat.ble d 378) (List.getD [_, _, _, _, _, _, _, _, _, _, _, _, _, _, _, _] (d - 363) undef) (List.getD [_, _, _, _, _, _, _, _, _, _, _, _, _, _, _, _] (d - 379) undef)) (cond (Nat.ble d 410) (List.getD [_, _, _, _, _, _, _, _, _, _, _, _, _, _, _, _] (d - 395) undef) (cond (Nat.ble d 426) (List.getD [_, _, _, _, _, _, _, _, _, _, _, _, _, _, _, _] (d - 411) undef) (List.getD [_, _, _, _, _, _, _, _] (d - 427) undef)))) (v d))), rfl⟩ hP
end Go.Proofs.YtmmopoofheblbaaGreatDoor.T
