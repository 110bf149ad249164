/- The cipher's Encrypt: the block's four words, five rounds of mixing, a mashing, six, a mashing, five; the words written. The key's 64 words are the cipher's; source and target have eight places. -/
import Derived.Test.YtlnifplomlnoiaaDoorLE
import Derived.Test.YtlnifplomlnoiaaDoorRot
import Derived.Test.YtlnifplomlnoiaaDoorRc2Fn
import Derived.StillTailTactics
import Derived.Deep.RegionHeld3
namespace Go.Proofs.YtlnifplomlnoiaaDoor
open Go.RowKit

/-- The cipher's memory: 64 words. -/
def KeyAt (w : World) (g : Nat) (K : Nat → Int) : Prop := ∀ j, j < 64 → w.cell? ⟨g, j, none⟩ = some (.int .u16 (K j))
def OkK (K : Nat → Int) : Prop := ∀ j, 0 ≤ K j ∧ K j ≤ 65535
/-- Eight bytes as four words. -/
def words (l : List Int) : S4 := (l.getD 0 0 + 256 * l.getD 1 0, l.getD 2 0 + 256 * l.getD 3 0, l.getD 4 0 + 256 * l.getD 5 0, l.getD 6 0 + 256 * l.getD 7 0)
/-- Four words as eight bytes. -/
def block : S4 → List Int
  | (a, b, c, d) => [a % 256, a / 256, b % 256, b / 256, c % 256, c / 256, d % 256, d / 256]
def ivals (l : List Int) : List Value := l.map (Value.int .u8)

theorem rnd_of {K : Nat → Int} {j : Nat} {a b c d y0 y1 y2 y3 : Int}
    (h0 : y0 = rotI 2 32768 (IntKind.u16.wrap (IntKind.u16.wrap (IntKind.u16.wrap (a + K j) + bits .and .u16 d c) + bits .and .u16 (65535 - d) b)))
    (h1 : y1 = rotI 4 16384 (IntKind.u16.wrap (IntKind.u16.wrap (IntKind.u16.wrap (b + K (j + 1)) + bits .and .u16 y0 d) + bits .and .u16 (65535 - y0) c)))
    (h2 : y2 = rotI 8 8192 (IntKind.u16.wrap (IntKind.u16.wrap (IntKind.u16.wrap (c + K (j + 2)) + bits .and .u16 y1 y0) + bits .and .u16 (65535 - y1) d)))
    (h3 : y3 = rotI 32 2048 (IntKind.u16.wrap (IntKind.u16.wrap (IntKind.u16.wrap (d + K (j + 3)) + bits .and .u16 y2 y1) + bits .and .u16 (65535 - y2) y0))) :
    (y0, y1, y2, y3) = rnd K j (a, b, c, d) := by
  rw [mix_eq] at h0 h1 h2 h3
  simp only [rnd]
  rw [h3, h2, h1, h0]

theorem u16_and63 (a : Int) (h0 : 0 ≤ a) (h1 : a ≤ 65535) : ∃ m : Nat, bits .and .u16 a 63 = (m : Int) ∧ m ≤ 63 ∧ (a % 64).toNat = m := by
  refine ⟨(a % 64).toNat, ?_, by omega, rfl⟩
  have := bits_mask .u16 16 (by decide) wraps_u16 6 (by decide) a h0 (by omega)
  rw [show ((2 : Int) ^ 6 - 1) = 63 from rfl, show ((2 : Int) ^ 6) = 64 from rfl] at this
  rw [this]
  omega

/-- What Encrypt leaves. -/
def Crypted (gd : Nat) (t : TypeId) (s : S4) (w : World) (E : Ending) (w' : World) : Prop := E = .returned (.tuple #[]) ∧ Blk w' gd t (ivals (block s)) ∧ w.grownBy w' (some gd)

theorem ivals_get {l : List Int} {j : Nat} (h : j < l.length) : (ivals l)[j]? = some (.int .u8 (l.getD j 0)) := by
  simp [ivals, List.getElem?_eq_getElem h, List.getD_eq_getElem?_getD]

theorem ok_words {l : List Int} (hb : ∀ x ∈ l, 0 ≤ x ∧ x ≤ 255) (hl : l.length = 8) : Ok4 (words l) := by
  have h : ∀ j, j < 8 → 0 ≤ l.getD j 0 ∧ l.getD j 0 ≤ 255 := fun j hj => by
    rw [List.getD_eq_getElem?_getD, List.getElem?_eq_getElem (by omega)]
    exact hb _ (List.getElem_mem _)
  have h0 := h 0 (by omega); have h1 := h 1 (by omega); have h2 := h 2 (by omega); have h3 := h 3 (by omega)
  have h4 := h 4 (by omega); have h5 := h 5 (by omega); have h6 := h 6 (by omega); have h7 := h 7 (by omega)
  simp only [words, Ok4]
  omega

/-- Eight places written two by two. -/
theorem put8 (old : List Value) (ho : old.length = 8) (a b c d : Int) :
    (((((((((old.set 0 (.int .u8 (a % 256))).set (0 + 1) (.int .u8 (a / 256))).set 2 (.int .u8 (b % 256))).set (2 + 1) (.int .u8 (b / 256))).set 4 (.int .u8 (c % 256))).set (4 + 1) (.int .u8 (c / 256))).set 6 (.int .u8 (d % 256))).set (6 + 1) (.int .u8 (d / 256)))) = ivals (block (a, b, c, d)) := by
  match old, ho with
  | [_, _, _, _, _, _, _, _], _ => rfl

set_option maxRecDepth 1000000 in
set_option maxHeartbeats 16000000 in
theorem encrypt_any (gk gd gs os cs : Nat) (t : TypeId) (K : Nat → Int) (old : List Value) (src : List Int) (w : World) (hk : KeyAt w gk K) (hd : Blk w gd t old) (ho : old.length = 8)
    (hs : Rd w w.heap.size (some ⟨gs, os, none⟩) 8 (ivals src)) (hsb : ∀ x ∈ src, 0 ≤ x ∧ x ≤ 255) (hkw : gk < w.heap.size) (hc : 8 ≤ cs) :
    Calls Tryd.prog 124 #[.pointer (some ⟨gk, 0, none⟩), .slice (some ⟨gd, 0, none⟩) 8 8, .slice (some ⟨gs, os, none⟩) 8 cs] w (Crypted gd t (encS K (words src)) w) := by
  have hl8 : src.length = 8 := by have := hs.1; simpa [ivals] using this
  obtain ⟨g1, o1, he1, hgs, hcell⟩ := hs.at_ (k := 0) (by omega)
  injection he1 with he1
  injection he1 with he1 he2
  subst he1 he2
  have hsc : ∀ j, j < 8 → w.cell? ⟨gs, os + j, none⟩ = some (.int .u8 (src.getD j 0)) := fun j hj => hcell j _ (ivals_get (by omega))
  have hsv : ∀ j, j < 8 → 0 ≤ src.getD j 0 ∧ src.getD j 0 ≤ 255 := fun j hj => by
    rw [List.getD_eq_getElem?_getD, List.getElem?_eq_getElem (by omega)]
    exact hsb _ (List.getElem_mem _)
  have HOK := Lib.hid (ok_words hsb hl8)
  have n2 : ¬ cs = 2 := by omega
  have n4 : ¬ cs = 4 := by omega
  have n6 : ¬ cs = 6 := by omega
  have n2' : ¬ (cs : Int) = 2 := by omega
  have n4' : ¬ (cs : Int) = 4 := by omega
  have n6' : ¬ (cs : Int) = 6 := by omega
  have hci : (8 : Int) ≤ (cs : Int) := by omega
  have HSC := Lib.hid hsc
  have HSV := Lib.hid hsv
  have HK0 := Lib.hid hk
  have HD0 := Lib.hid hd
  have HO8 := Lib.hid ho
  clear hsc hsv hcell hs hsb hl8 hk hd ho
  go_enter Tryd.func124, Tryd.ntmps124
  have hb0 : Below w.heap.size w w := Below.refl _ _
  go_wp2_with fail
  go_still_tail 3, (by kernel_rfl)
  go_wp2_with fail
  refine (uint16_any gs os _ _ (src.getD 0 0) (src.getD 1 0) _ (by omega) ?_ ?_ (HSV.out 0 (by omega)).1 (HSV.out 0 (by omega)).2 (HSV.out 1 (by omega)).1 (HSV.out 1 (by omega)).2).mono ?_
  · exact (hb0.drew.cell (p := ⟨gs, os + 0, none⟩) hgs).trans (HSC.out 0 (by omega))
  · exact (hb0.drew.cell (p := ⟨gs, os + 1, none⟩) hgs).trans (HSC.out 1 (by omega))
  rintro E w1 ⟨rfl, hx1⟩
  have hb1 : Below w.heap.size w w1 := hb0.drew.trans (hx1.mono hb0.size)
  go_wp2_with fail
  go_still_tail 3, (by kernel_rfl)
  go_wp2_with fail
  refine (uint16_any gs (os + 2) _ _ (src.getD 2 0) (src.getD 3 0) _ (by omega) ?_ ?_ (HSV.out 2 (by omega)).1 (HSV.out 2 (by omega)).2 (HSV.out 3 (by omega)).1 (HSV.out 3 (by omega)).2).mono ?_
  · exact (hb1.drew.cell (p := ⟨gs, os + 2, none⟩) hgs).trans (HSC.out 2 (by omega))
  · exact (hb1.drew.cell (p := ⟨gs, os + 3, none⟩) hgs).trans (HSC.out 3 (by omega))
  rintro E w2 ⟨rfl, hx2⟩
  have hb2 : Below w.heap.size w w2 := hb1.drew.trans (hx2.mono hb1.size)
  go_wp2_with fail
  go_still_tail 3, (by kernel_rfl)
  go_wp2_with fail
  refine (uint16_any gs (os + 4) _ _ (src.getD 4 0) (src.getD 5 0) _ (by omega) ?_ ?_ (HSV.out 4 (by omega)).1 (HSV.out 4 (by omega)).2 (HSV.out 5 (by omega)).1 (HSV.out 5 (by omega)).2).mono ?_
  · exact (hb2.drew.cell (p := ⟨gs, os + 4, none⟩) hgs).trans (HSC.out 4 (by omega))
  · exact (hb2.drew.cell (p := ⟨gs, os + 5, none⟩) hgs).trans (HSC.out 5 (by omega))
  rintro E w3 ⟨rfl, hx3⟩
  have hb3 : Below w.heap.size w w3 := hb2.drew.trans (hx3.mono hb2.size)
  go_wp2_with fail
  go_still_tail 3, (by kernel_rfl)
  go_wp2_with fail
  refine (uint16_any gs (os + 6) _ _ (src.getD 6 0) (src.getD 7 0) _ (by omega) ?_ ?_ (HSV.out 6 (by omega)).1 (HSV.out 6 (by omega)).2 (HSV.out 7 (by omega)).1 (HSV.out 7 (by omega)).2).mono ?_
  · exact (hb3.drew.cell (p := ⟨gs, os + 6, none⟩) hgs).trans (HSC.out 6 (by omega))
  · exact (hb3.drew.cell (p := ⟨gs, os + 7, none⟩) hgs).trans (HSC.out 7 (by omega))
  rintro E w4 ⟨rfl, hx4⟩
  have hb4 : Below w.heap.size w w4 := hb3.drew.trans (hx4.mono hb3.size)
  have HK := Lib.hid (show KeyAt w4 gk K from fun j hj => (hb4.cell (p := ⟨gk, j, none⟩) hkw).trans (HK0.out j hj))
  have HD := Lib.hid (HD0.out.below hb4 HD0.out.lt)
  have HG := Lib.hid (below_grown hb4 (some gd))
  have hgd : gd < w.heap.size := HD0.out.lt
  clear hx1 hx2 hx3 hx4 hb0 hb1 hb2 hb3 hb4 hgs n2 n4 n6 n2' n4' n6' hci HK0 HD0 HSC HSV
  go_wp2_with fail
  go_loop [6, 7, 8, 9, 10] (fun r0 r1 r2 r3 jj => ∃ (i j : Nat) (a b c d : Int), i ≤ 5 ∧ Hid (j = 0 + 4 * i) ∧ r0 = .int .u16 a ∧ r1 = .int .u16 b ∧ r2 = .int .u16 c ∧ r3 = .int .u16 d ∧ jj = .int .i64 (j : Int) ∧ Hid (Ok4 (a, b, c, d)) ∧ Hid ((a, b, c, d) = rnds K 0 i (words src))) (fun _ _ _ _ jj => 100 - (intOf jj).toNat)
  case atStart => exact ⟨0, 0, _, _, _, _, by omega, rfl, rfl, rfl, rfl, rfl, rfl, HOK.out, rfl⟩
  case round =>
    obtain ⟨i, j, a, b, c, d, hi, HJ, rfl, rfl, rfl, rfl, rfl, HO, HS⟩ := hrel
    by_cases hlt : i < 5
    · have hj : j = 0 + 4 * i := HJ.out
      have hj16 : (j : Int) ≤ 16 := by omega
      have c0 := HK.out j (by omega)
      have c1 := HK.out (j + 1) (by omega)
      have c2 := HK.out (j + 2) (by omega)
      have c3 := HK.out (j + 3) (by omega)
      have ix0 : (j : Int) < 64 := by omega
      have ix1 : (j : Int) + 1 < 64 := by omega
      have ix2 : (j : Int) + 2 < 64 := by omega
      have ix3 : (j : Int) + 3 < 64 := by omega
      have hd := HO.out.2.2.2
      have nd := u16_not d hd.1 hd.2
      clear hj hd
      go_wp2_with fail
      refine (rotl_1 _ _ (w16_nn _) (w16_le _)).mono ?_
      rintro E w' ⟨y0, rfl, p0, q0, H0, rfl⟩
      have n0 := u16_not y0 p0 q0
      go_wp2_with fail
      refine (rotl_2 _ _ (w16_nn _) (w16_le _)).mono ?_
      rintro E w' ⟨y1, rfl, p1, q1, H1, rfl⟩
      have n1 := u16_not y1 p1 q1
      go_wp2_with fail
      refine (rotl_3 _ _ (w16_nn _) (w16_le _)).mono ?_
      rintro E w' ⟨y2, rfl, p2, q2, H2, rfl⟩
      have n2 := u16_not y2 p2 q2
      go_wp2_with fail
      refine (rotl_5 _ _ (w16_nn _) (w16_le _)).mono ?_
      rintro E w' ⟨y3, rfl, p3, q3, H3, rfl⟩
      go_wp2_with fail
      have hr := rnd_of (K := K) (j := j) H0.out H1.out H2.out H3.out
      go_round
      case rel =>
        refine ⟨i + 1, j + 4, y0, y1, y2, y3, by omega, by have := HJ.out; show _ = _; omega, rfl, rfl, rfl, rfl, by go_num, ⟨⟨p0, q0⟩, ⟨p1, q1⟩, ⟨p2, q2⟩, ⟨p3, q3⟩⟩, ?_⟩
        show _ = _
        rw [rnds, ← HS.out, hr, HJ.out]
      case measure => simp [intOf]; omega
    · obtain rfl : i = 5 := by omega
      obtain rfl : j = 20 := by have := HJ.out; omega
      obtain ⟨m3, e3, l3, t3⟩ := u16_and63 d HO.out.2.2.2.1 HO.out.2.2.2.2
      have k3 := HK.out m3 (by omega)
      obtain ⟨m0, e0, l0, t0⟩ := u16_and63 (IntKind.u16.wrap (a + K m3)) (w16_nn _) (w16_le _)
      have k0 := HK.out m0 (by omega)
      obtain ⟨m1, e1, l1, t1⟩ := u16_and63 (IntKind.u16.wrap (b + K m0)) (w16_nn _) (w16_le _)
      have k1 := HK.out m1 (by omega)
      obtain ⟨m2, e2, l2, t2⟩ := u16_and63 (IntKind.u16.wrap (c + K m1)) (w16_nn _) (w16_le _)
      have k2 := HK.out m2 (by omega)
      have x0 : (m0 : Int) < 64 := by omega
      have x1 : (m1 : Int) < 64 := by omega
      have x2 : (m2 : Int) < 64 := by omega
      have x3 : (m3 : Int) < 64 := by omega
      have hm : (IntKind.u16.wrap (a + K m3), IntKind.u16.wrap (b + K m0), IntKind.u16.wrap (c + K m1), IntKind.u16.wrap (d + K m2)) = mash K (a, b, c, d) := by
        rw [w16] at t0 t1 t2
        simp only [mash, w16]
        rw [t3, t0, t1, t2]
      have HM := Lib.hid hm
      clear hm t0 t1 t2 t3
      go_wp2_with fail
      go_loop [6, 7, 8, 9, 10] (fun r0 r1 r2 r3 jj => ∃ (i j : Nat) (a b c d : Int), i ≤ 6 ∧ Hid (j = 20 + 4 * i) ∧ r0 = .int .u16 a ∧ r1 = .int .u16 b ∧ r2 = .int .u16 c ∧ r3 = .int .u16 d ∧ jj = .int .i64 (j : Int) ∧ Hid (Ok4 (a, b, c, d)) ∧ Hid ((a, b, c, d) = rnds K 20 i (mash K (rnds K 0 5 (words src))))) (fun _ _ _ _ jj => 100 - (intOf jj).toNat)
      case atStart => exact ⟨0, 20, _, _, _, _, by omega, rfl, rfl, rfl, rfl, rfl, rfl, by rw [HM.out]; exact mash_ok _ _, by rw [HM.out, HS.out]; rfl⟩
      case round =>
        obtain ⟨i, j, a, b, c, d, hi, HJ, rfl, rfl, rfl, rfl, rfl, HO, HS⟩ := hrel
        by_cases hlt : i < 6
        · have hj : j = 20 + 4 * i := HJ.out
          have hj16 : (j : Int) ≤ 40 := by omega
          have c0 := HK.out j (by omega)
          have c1 := HK.out (j + 1) (by omega)
          have c2 := HK.out (j + 2) (by omega)
          have c3 := HK.out (j + 3) (by omega)
          have ix0 : (j : Int) < 64 := by omega
          have ix1 : (j : Int) + 1 < 64 := by omega
          have ix2 : (j : Int) + 2 < 64 := by omega
          have ix3 : (j : Int) + 3 < 64 := by omega
          have hd := HO.out.2.2.2
          have nd := u16_not d hd.1 hd.2
          clear hj hd
          go_wp2_with fail
          refine (rotl_1 _ _ (w16_nn _) (w16_le _)).mono ?_
          rintro E w' ⟨y0, rfl, p0, q0, H0, rfl⟩
          have n0 := u16_not y0 p0 q0
          go_wp2_with fail
          refine (rotl_2 _ _ (w16_nn _) (w16_le _)).mono ?_
          rintro E w' ⟨y1, rfl, p1, q1, H1, rfl⟩
          have n1 := u16_not y1 p1 q1
          go_wp2_with fail
          refine (rotl_3 _ _ (w16_nn _) (w16_le _)).mono ?_
          rintro E w' ⟨y2, rfl, p2, q2, H2, rfl⟩
          have n2 := u16_not y2 p2 q2
          go_wp2_with fail
          refine (rotl_5 _ _ (w16_nn _) (w16_le _)).mono ?_
          rintro E w' ⟨y3, rfl, p3, q3, H3, rfl⟩
          go_wp2_with fail
          have hr := rnd_of (K := K) (j := j) H0.out H1.out H2.out H3.out
          go_round
          case rel =>
            refine ⟨i + 1, j + 4, y0, y1, y2, y3, by omega, by have := HJ.out; show _ = _; omega, rfl, rfl, rfl, rfl, by go_num, ⟨⟨p0, q0⟩, ⟨p1, q1⟩, ⟨p2, q2⟩, ⟨p3, q3⟩⟩, ?_⟩
            show _ = _
            rw [rnds, ← HS.out, hr, HJ.out]
          case measure => simp [intOf]; omega
        · obtain rfl : i = 6 := by omega
          obtain rfl : j = 44 := by have := HJ.out; omega
          obtain ⟨m3, e3, l3, t3⟩ := u16_and63 d HO.out.2.2.2.1 HO.out.2.2.2.2
          have k3 := HK.out m3 (by omega)
          obtain ⟨m0, e0, l0, t0⟩ := u16_and63 (IntKind.u16.wrap (a + K m3)) (w16_nn _) (w16_le _)
          have k0 := HK.out m0 (by omega)
          obtain ⟨m1, e1, l1, t1⟩ := u16_and63 (IntKind.u16.wrap (b + K m0)) (w16_nn _) (w16_le _)
          have k1 := HK.out m1 (by omega)
          obtain ⟨m2, e2, l2, t2⟩ := u16_and63 (IntKind.u16.wrap (c + K m1)) (w16_nn _) (w16_le _)
          have k2 := HK.out m2 (by omega)
          have x0 : (m0 : Int) < 64 := by omega
          have x1 : (m1 : Int) < 64 := by omega
          have x2 : (m2 : Int) < 64 := by omega
          have x3 : (m3 : Int) < 64 := by omega
          have hm : (IntKind.u16.wrap (a + K m3), IntKind.u16.wrap (b + K m0), IntKind.u16.wrap (c + K m1), IntKind.u16.wrap (d + K m2)) = mash K (a, b, c, d) := by
            rw [w16] at t0 t1 t2
            simp only [mash, w16]
            rw [t3, t0, t1, t2]
          have HM := Lib.hid hm
          clear hm t0 t1 t2 t3
          go_wp2_with fail
          go_loop [6, 7, 8, 9, 10] (fun r0 r1 r2 r3 jj => ∃ (i j : Nat) (a b c d : Int), i ≤ 5 ∧ Hid (j = 44 + 4 * i) ∧ r0 = .int .u16 a ∧ r1 = .int .u16 b ∧ r2 = .int .u16 c ∧ r3 = .int .u16 d ∧ jj = .int .i64 (j : Int) ∧ Hid (Ok4 (a, b, c, d)) ∧ Hid ((a, b, c, d) = rnds K 44 i (mash K (rnds K 20 6 (mash K (rnds K 0 5 (words src))))))) (fun _ _ _ _ jj => 100 - (intOf jj).toNat)
          case atStart => exact ⟨0, 44, _, _, _, _, by omega, rfl, rfl, rfl, rfl, rfl, rfl, by rw [HM.out]; exact mash_ok _ _, by rw [HM.out, HS.out]; rfl⟩
          case round =>
            obtain ⟨i, j, a, b, c, d, hi, HJ, rfl, rfl, rfl, rfl, rfl, HO, HS⟩ := hrel
            by_cases hlt : i < 5
            · have hj : j = 44 + 4 * i := HJ.out
              have hj16 : (j : Int) ≤ 60 := by omega
              have c0 := HK.out j (by omega)
              have c1 := HK.out (j + 1) (by omega)
              have c2 := HK.out (j + 2) (by omega)
              have c3 := HK.out (j + 3) (by omega)
              have ix0 : (j : Int) < 64 := by omega
              have ix1 : (j : Int) + 1 < 64 := by omega
              have ix2 : (j : Int) + 2 < 64 := by omega
              have ix3 : (j : Int) + 3 < 64 := by omega
              have hd := HO.out.2.2.2
              have nd := u16_not d hd.1 hd.2
              clear hj hd
              go_wp2_with fail
              refine (rotl_1 _ _ (w16_nn _) (w16_le _)).mono ?_
              rintro E w' ⟨y0, rfl, p0, q0, H0, rfl⟩
              have n0 := u16_not y0 p0 q0
              go_wp2_with fail
              refine (rotl_2 _ _ (w16_nn _) (w16_le _)).mono ?_
              rintro E w' ⟨y1, rfl, p1, q1, H1, rfl⟩
              have n1 := u16_not y1 p1 q1
              go_wp2_with fail
              refine (rotl_3 _ _ (w16_nn _) (w16_le _)).mono ?_
              rintro E w' ⟨y2, rfl, p2, q2, H2, rfl⟩
              have n2 := u16_not y2 p2 q2
              go_wp2_with fail
              refine (rotl_5 _ _ (w16_nn _) (w16_le _)).mono ?_
              rintro E w' ⟨y3, rfl, p3, q3, H3, rfl⟩
              go_wp2_with fail
              have hr := rnd_of (K := K) (j := j) H0.out H1.out H2.out H3.out
              go_round
              case rel =>
                refine ⟨i + 1, j + 4, y0, y1, y2, y3, by omega, by have := HJ.out; show _ = _; omega, rfl, rfl, rfl, rfl, by go_num, ⟨⟨p0, q0⟩, ⟨p1, q1⟩, ⟨p2, q2⟩, ⟨p3, q3⟩⟩, ?_⟩
                show _ = _
                rw [rnds, ← HS.out, hr, HJ.out]
              case measure => simp [intOf]; omega
            · obtain rfl : i = 5 := by omega
              obtain rfl : j = 64 := by have := HJ.out; omega
              have hf : (a, b, c, d) = encS K (words src) := by
                have := HS.out
                unfold encS
                rw [this]
              have ha := HO.out.1; have hbb := HO.out.2.1; have hcc := HO.out.2.2.1; have hdd := HO.out.2.2.2
              simp only at ha hbb hcc hdd
              have HF := Lib.hid hf
              clear hf
              have hd0 := HD.out
              have hg0 := HG.out
              go_wp2_with fail
              go_still_tail 4, (by kernel_rfl)
              go_wp2_with fail
              refine (putUint16_any gd 0 _ _ t _ a _ (by omega) (hd0.drewN 1) (by simp [HO8.out]) ha.1 ha.2).mono ?_
              rintro E v1 ⟨rfl, hd1, hq1⟩
              have hg1 : w.grownBy v1 (some gd) := (grown_drewN hg0 1).trans hq1
              go_wp2_with fail
              go_still_tail 4, (by kernel_rfl)
              go_wp2_with fail
              refine (putUint16_any gd 2 _ _ t _ b _ (by omega) (hd1.drewN 1) (by simp [HO8.out]) hbb.1 hbb.2).mono ?_
              rintro E v2 ⟨rfl, hd2, hq2⟩
              have hg2 : w.grownBy v2 (some gd) := (grown_drewN hg1 1).trans hq2
              go_wp2_with fail
              go_still_tail 4, (by kernel_rfl)
              go_wp2_with fail
              refine (putUint16_any gd 4 _ _ t _ c _ (by omega) (hd2.drewN 1) (by simp [HO8.out]) hcc.1 hcc.2).mono ?_
              rintro E v3 ⟨rfl, hd3, hq3⟩
              have hg3 : w.grownBy v3 (some gd) := (grown_drewN hg2 1).trans hq3
              go_wp2_with fail
              go_still_tail 4, (by kernel_rfl)
              go_wp2_with fail
              refine (putUint16_any gd 6 _ _ t _ d _ (by omega) (hd3.drewN 1) (by simp [HO8.out]) hdd.1 hdd.2).mono ?_
              rintro E v4 ⟨rfl, hd4, hq4⟩
              have hg4 : w.grownBy v4 (some gd) := (grown_drewN hg3 1).trans hq4
              go_wp2_with fail
              go_end0
              refine ⟨rfl, ?_, hg4⟩
              rw [← HF.out, ← put8 old HO8.out a b c d]
              exact hd4
end Go.Proofs.YtlnifplomlnoiaaDoor
