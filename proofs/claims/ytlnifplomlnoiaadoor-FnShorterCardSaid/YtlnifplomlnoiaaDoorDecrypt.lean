/- The cipher's Decrypt: the rounds of Encrypt undone, the last first. The key's 64 words are the cipher's; source and target have eight places. -/
import Derived.Test.YtlnifplomlnoiaaDoorEncrypt
namespace Go.Proofs.YtlnifplomlnoiaaDoor
open Go.RowKit

theorem unrnd_of {K : Nat → Int} {q : Nat} {a b c d y0 y1 y2 y3 d' c' b' a' : Int}
    (h3 : y3 = rotI 2048 32 d) (e3 : d' = IntKind.u16.wrap (IntKind.u16.wrap (IntKind.u16.wrap (y3 - K (q + 3)) - bits .and .u16 c b) - bits .and .u16 (65535 - c) a))
    (h2 : y2 = rotI 8192 8 c) (e2 : c' = IntKind.u16.wrap (IntKind.u16.wrap (IntKind.u16.wrap (y2 - K (q + 2)) - bits .and .u16 b a) - bits .and .u16 (65535 - b) d'))
    (h1 : y1 = rotI 16384 4 b) (e1 : b' = IntKind.u16.wrap (IntKind.u16.wrap (IntKind.u16.wrap (y1 - K (q + 1)) - bits .and .u16 a d') - bits .and .u16 (65535 - a) c'))
    (h0 : y0 = rotI 32768 2 a) (e0 : a' = IntKind.u16.wrap (IntKind.u16.wrap (IntKind.u16.wrap (y0 - K q) - bits .and .u16 d' c') - bits .and .u16 (65535 - d') b')) :
    (a', b', c', d') = unrnd K (q + 3) (a, b, c, d) := by
  rw [unmix_eq] at e0 e1 e2 e3
  simp only [unrnd, Nat.add_sub_cancel, show q + 3 - 1 = q + 2 by omega, show q + 3 - 2 = q + 1 by omega]
  rw [e0, e1, e2, e3, h0, h1, h2, h3]

theorem not_wrap (n : Int) : bits .xor .u16 IntKind.u16.max (IntKind.u16.wrap n) = 65535 - IntKind.u16.wrap n := u16_not _ (w16_nn n) (w16_le n)

set_option maxRecDepth 1000000 in
set_option maxHeartbeats 16000000 in
theorem decrypt_any (gk gd gs os cs : Nat) (t : TypeId) (K : Nat → Int) (old : List Value) (src : List Int) (w : World) (hk : KeyAt w gk K) (hd : Blk w gd t old) (ho : old.length = 8)
    (hs : Rd w w.heap.size (some ⟨gs, os, none⟩) 8 (ivals src)) (hsb : ∀ x ∈ src, 0 ≤ x ∧ x ≤ 255) (hkw : gk < w.heap.size) (hc : 8 ≤ cs) :
    Calls Tryd.prog 123 #[.pointer (some ⟨gk, 0, none⟩), .slice (some ⟨gd, 0, none⟩) 8 8, .slice (some ⟨gs, os, none⟩) 8 cs] w (Crypted gd t (decS K (words src)) w) := by
  have hl8 : src.length = 8 := by have := hs.1; simpa [ivals] using this
  obtain ⟨g1, o1, he1, hgs, hcell⟩ := hs.at_ (k := 0) (by omega)
  injection he1 with he1
  injection he1 with he1 he2
  subst he1 he2
  have hsc : ∀ j, j < 8 → w.cell? ⟨gs, os + j, none⟩ = some (.int .u8 (src.getD j 0)) := fun j hj => hcell j _ (ivals_get (by omega))
  have hsv : ∀ j, j < 8 → 0 ≤ src.getD j 0 ∧ src.getD j 0 ≤ 255 := fun j hj => by
    rw [List.getD_eq_getElem?_getD, List.getElem?_eq_getElem (by omega)]
    exact hsb _ (List.getElem_mem _)
  have HOK := Lib.hid (ok_words hsb hl8)
  have n2 : ¬ cs = 2 := by omega
  have n4 : ¬ cs = 4 := by omega
  have n6 : ¬ cs = 6 := by omega
  have n2' : ¬ (cs : Int) = 2 := by omega
  have n4' : ¬ (cs : Int) = 4 := by omega
  have n6' : ¬ (cs : Int) = 6 := by omega
  have hci : (8 : Int) ≤ (cs : Int) := by omega
  have HSC := Lib.hid hsc
  have HSV := Lib.hid hsv
  have HK0 := Lib.hid hk
  have HD0 := Lib.hid hd
  have HO8 := Lib.hid ho
  clear hsc hsv hcell hs hsb hl8 hk hd ho
  go_enter Tryd.func123, Tryd.ntmps123
  have hb0 : Below w.heap.size w w := Below.refl _ _
  go_wp2_with fail
  go_still_tail 3, (by kernel_rfl)
  go_wp2_with fail
  refine (uint16_any gs os _ _ (src.getD 0 0) (src.getD 1 0) _ (by omega) ?_ ?_ (HSV.out 0 (by omega)).1 (HSV.out 0 (by omega)).2 (HSV.out 1 (by omega)).1 (HSV.out 1 (by omega)).2).mono ?_
  · exact (hb0.drew.cell (p := ⟨gs, os + 0, none⟩) hgs).trans (HSC.out 0 (by omega))
  · exact (hb0.drew.cell (p := ⟨gs, os + 1, none⟩) hgs).trans (HSC.out 1 (by omega))
  rintro E w1 ⟨rfl, hx1⟩
  have hb1 : Below w.heap.size w w1 := hb0.drew.trans (hx1.mono hb0.size)
  go_wp2_with fail
  go_still_tail 3, (by kernel_rfl)
  go_wp2_with fail
  refine (uint16_any gs (os + 2) _ _ (src.getD 2 0) (src.getD 3 0) _ (by omega) ?_ ?_ (HSV.out 2 (by omega)).1 (HSV.out 2 (by omega)).2 (HSV.out 3 (by omega)).1 (HSV.out 3 (by omega)).2).mono ?_
  · exact (hb1.drew.cell (p := ⟨gs, os + 2, none⟩) hgs).trans (HSC.out 2 (by omega))
  · exact (hb1.drew.cell (p := ⟨gs, os + 3, none⟩) hgs).trans (HSC.out 3 (by omega))
  rintro E w2 ⟨rfl, hx2⟩
  have hb2 : Below w.heap.size w w2 := hb1.drew.trans (hx2.mono hb1.size)
  go_wp2_with fail
  go_still_tail 3, (by kernel_rfl)
  go_wp2_with fail
  refine (uint16_any gs (os + 4) _ _ (src.getD 4 0) (src.getD 5 0) _ (by omega) ?_ ?_ (HSV.out 4 (by omega)).1 (HSV.out 4 (by omega)).2 (HSV.out 5 (by omega)).1 (HSV.out 5 (by omega)).2).mono ?_
  · exact (hb2.drew.cell (p := ⟨gs, os + 4, none⟩) hgs).trans (HSC.out 4 (by omega))
  · exact (hb2.drew.cell (p := ⟨gs, os + 5, none⟩) hgs).trans (HSC.out 5 (by omega))
  rintro E w3 ⟨rfl, hx3⟩
  have hb3 : Below w.heap.size w w3 := hb2.drew.trans (hx3.mono hb2.size)
  go_wp2_with fail
  go_still_tail 3, (by kernel_rfl)
  go_wp2_with fail
  refine (uint16_any gs (os + 6) _ _ (src.getD 6 0) (src.getD 7 0) _ (by omega) ?_ ?_ (HSV.out 6 (by omega)).1 (HSV.out 6 (by omega)).2 (HSV.out 7 (by omega)).1 (HSV.out 7 (by omega)).2).mono ?_
  · exact (hb3.drew.cell (p := ⟨gs, os + 6, none⟩) hgs).trans (HSC.out 6 (by omega))
  · exact (hb3.drew.cell (p := ⟨gs, os + 7, none⟩) hgs).trans (HSC.out 7 (by omega))
  rintro E w4 ⟨rfl, hx4⟩
  have hb4 : Below w.heap.size w w4 := hb3.drew.trans (hx4.mono hb3.size)
  have HK := Lib.hid (show KeyAt w4 gk K from fun j hj => (hb4.cell (p := ⟨gk, j, none⟩) hkw).trans (HK0.out j hj))
  have HD := Lib.hid (HD0.out.below hb4 HD0.out.lt)
  have HG := Lib.hid (below_grown hb4 (some gd))
  have hgd : gd < w.heap.size := HD0.out.lt
  clear hx1 hx2 hx3 hx4 hb0 hb1 hb2 hb3 hb4 hgs n2 n4 n6 n2' n4' n6' hci HK0 HD0 HSC HSV
  go_wp2_with fail
  go_loop [6, 7, 8, 9, 10] (fun r0 r1 r2 r3 jj => ∃ (i : Nat) (J a b c d : Int), i ≤ 5 ∧ Hid (J = 63 - 4 * (i : Int)) ∧ r0 = .int .u16 a ∧ r1 = .int .u16 b ∧ r2 = .int .u16 c ∧ r3 = .int .u16 d ∧ jj = .int .i64 J ∧ Hid (Ok4 (a, b, c, d)) ∧ Hid ((a, b, c, d) = unrnds K 63 i (words src))) (fun _ _ _ _ jj => (100 + intOf jj).toNat)
  case atStart => exact ⟨0, 63, _, _, _, _, by omega, rfl, rfl, rfl, rfl, rfl, rfl, HOK.out, rfl⟩
  case round =>
    obtain ⟨i, J, a, b, c, d, hi, HJ, rfl, rfl, rfl, rfl, rfl, HO, HS⟩ := hrel
    by_cases hlt : i < 5
    · obtain ⟨q, hq⟩ : ∃ q : Nat, J = (q : Int) + 3 := ⟨(J - 3).toNat, by have := HJ.out; omega⟩
      subst hq
      have hj := HJ.out
      have hj16 : (44 : Int) ≤ (q : Int) + 3 := by omega
      have c0 := HK.out q (by omega)
      have c1 := HK.out (q + 1) (by omega)
      have c2 := HK.out (q + 2) (by omega)
      have c3 := HK.out (q + 3) (by omega)
      have hq64 : (q : Int) + 3 < 64 := by omega
      obtain ⟨oa, ob, oc, od⟩ := HO.out
      simp only at oa ob oc od
      have na := u16_not a oa.1 oa.2
      have nb := u16_not b ob.1 ob.2
      have nc := u16_not c oc.1 oc.2
      have nw := not_wrap
      have OA := Lib.hid oa; have OB := Lib.hid ob; have OC := Lib.hid oc; have OD := Lib.hid od
      clear hj oa ob oc od
      go_wp2_with fail
      refine (rotl_11 _ _ OD.out.1 OD.out.2).mono ?_
      rintro E w' ⟨y3, rfl, p3, q3, H3, rfl⟩
      go_wp2_with fail
      refine (rotl_13 _ _ OC.out.1 OC.out.2).mono ?_
      rintro E w' ⟨y2, rfl, p2, q2, H2, rfl⟩
      go_wp2_with fail
      refine (rotl_14 _ _ OB.out.1 OB.out.2).mono ?_
      rintro E w' ⟨y1, rfl, p1, q1, H1, rfl⟩
      go_wp2_with fail
      refine (rotl_15 _ _ OA.out.1 OA.out.2).mono ?_
      rintro E w' ⟨y0, rfl, p0, q0, H0, rfl⟩
      go_wp2_with fail
      go_round
      case rel =>
        refine ⟨i + 1, _, _, _, _, _, by omega, ?_, rfl, rfl, rfl, rfl, rfl, ⟨⟨w16_nn _, w16_le _⟩, ⟨w16_nn _, w16_le _⟩, ⟨w16_nn _, w16_le _⟩, ⟨w16_nn _, w16_le _⟩⟩, ?_⟩
        · have := HJ.out
          show _ = _
          omega
        · have hr := unrnd_of (K := K) (q := q) H3.out rfl H2.out rfl H1.out rfl H0.out rfl
          have hjq : q + 3 = 63 - 4 * i := by have := HJ.out; omega
          show _ = _
          rw [unrnds, ← HS.out, ← hjq, ← hr]
      case measure => simp [intOf]; omega
    · obtain rfl : i = 5 := by omega
      obtain rfl : J = 43 := by have := HJ.out; omega
      obtain ⟨m3, e3, l3, t3⟩ := u16_and63 c HO.out.2.2.1.1 HO.out.2.2.1.2
      have k3 := HK.out m3 (by omega)
      obtain ⟨m2, e2, l2, t2⟩ := u16_and63 b HO.out.2.1.1 HO.out.2.1.2
      have k2 := HK.out m2 (by omega)
      obtain ⟨m1, e1, l1, t1⟩ := u16_and63 a HO.out.1.1 HO.out.1.2
      have k1 := HK.out m1 (by omega)
      obtain ⟨m0, e0, l0, t0⟩ := u16_and63 (IntKind.u16.wrap (d - K m3)) (w16_nn _) (w16_le _)
      have k0 := HK.out m0 (by omega)
      have x0 : (m0 : Int) < 64 := by omega
      have x1 : (m1 : Int) < 64 := by omega
      have x2 : (m2 : Int) < 64 := by omega
      have x3 : (m3 : Int) < 64 := by omega
      have hm : (IntKind.u16.wrap (a - K m0), IntKind.u16.wrap (b - K m1), IntKind.u16.wrap (c - K m2), IntKind.u16.wrap (d - K m3)) = unmash K (a, b, c, d) := by
        rw [w16] at t0
        simp only [unmash, w16]
        rw [t3, t2, t1, t0]
      have HM := Lib.hid hm
      clear hm t0 t1 t2 t3
      go_wp2_with fail
      go_loop [6, 7, 8, 9, 10] (fun r0 r1 r2 r3 jj => ∃ (i : Nat) (J a b c d : Int), i ≤ 6 ∧ Hid (J = 43 - 4 * (i : Int)) ∧ r0 = .int .u16 a ∧ r1 = .int .u16 b ∧ r2 = .int .u16 c ∧ r3 = .int .u16 d ∧ jj = .int .i64 J ∧ Hid (Ok4 (a, b, c, d)) ∧ Hid ((a, b, c, d) = unrnds K 43 i (unmash K (unrnds K 63 5 (words src))))) (fun _ _ _ _ jj => (100 + intOf jj).toNat)
      case atStart => exact ⟨0, 43, _, _, _, _, by omega, rfl, rfl, rfl, rfl, rfl, rfl, by rw [HM.out]; exact unmash_ok _ _, by rw [HM.out, HS.out]; rfl⟩
      case round =>
        obtain ⟨i, J, a, b, c, d, hi, HJ, rfl, rfl, rfl, rfl, rfl, HO, HS⟩ := hrel
        by_cases hlt : i < 6
        · obtain ⟨q, hq⟩ : ∃ q : Nat, J = (q : Int) + 3 := ⟨(J - 3).toNat, by have := HJ.out; omega⟩
          subst hq
          have hj := HJ.out
          have hj16 : (20 : Int) ≤ (q : Int) + 3 := by omega
          have c0 := HK.out q (by omega)
          have c1 := HK.out (q + 1) (by omega)
          have c2 := HK.out (q + 2) (by omega)
          have c3 := HK.out (q + 3) (by omega)
          have hq64 : (q : Int) + 3 < 64 := by omega
          obtain ⟨oa, ob, oc, od⟩ := HO.out
          simp only at oa ob oc od
          have na := u16_not a oa.1 oa.2
          have nb := u16_not b ob.1 ob.2
          have nc := u16_not c oc.1 oc.2
          have nw := not_wrap
          have OA := Lib.hid oa; have OB := Lib.hid ob; have OC := Lib.hid oc; have OD := Lib.hid od
          clear hj oa ob oc od
          go_wp2_with fail
          refine (rotl_11 _ _ OD.out.1 OD.out.2).mono ?_
          rintro E w' ⟨y3, rfl, p3, q3, H3, rfl⟩
          go_wp2_with fail
          refine (rotl_13 _ _ OC.out.1 OC.out.2).mono ?_
          rintro E w' ⟨y2, rfl, p2, q2, H2, rfl⟩
          go_wp2_with fail
          refine (rotl_14 _ _ OB.out.1 OB.out.2).mono ?_
          rintro E w' ⟨y1, rfl, p1, q1, H1, rfl⟩
          go_wp2_with fail
          refine (rotl_15 _ _ OA.out.1 OA.out.2).mono ?_
          rintro E w' ⟨y0, rfl, p0, q0, H0, rfl⟩
          go_wp2_with fail
          go_round
          case rel =>
            refine ⟨i + 1, _, _, _, _, _, by omega, ?_, rfl, rfl, rfl, rfl, rfl, ⟨⟨w16_nn _, w16_le _⟩, ⟨w16_nn _, w16_le _⟩, ⟨w16_nn _, w16_le _⟩, ⟨w16_nn _, w16_le _⟩⟩, ?_⟩
            · have := HJ.out
              show _ = _
              omega
            · have hr := unrnd_of (K := K) (q := q) H3.out rfl H2.out rfl H1.out rfl H0.out rfl
              have hjq : q + 3 = 43 - 4 * i := by have := HJ.out; omega
              show _ = _
              rw [unrnds, ← HS.out, ← hjq, ← hr]
          case measure => simp [intOf]; omega
        · obtain rfl : i = 6 := by omega
          obtain rfl : J = 19 := by have := HJ.out; omega
          obtain ⟨m3, e3, l3, t3⟩ := u16_and63 c HO.out.2.2.1.1 HO.out.2.2.1.2
          have k3 := HK.out m3 (by omega)
          obtain ⟨m2, e2, l2, t2⟩ := u16_and63 b HO.out.2.1.1 HO.out.2.1.2
          have k2 := HK.out m2 (by omega)
          obtain ⟨m1, e1, l1, t1⟩ := u16_and63 a HO.out.1.1 HO.out.1.2
          have k1 := HK.out m1 (by omega)
          obtain ⟨m0, e0, l0, t0⟩ := u16_and63 (IntKind.u16.wrap (d - K m3)) (w16_nn _) (w16_le _)
          have k0 := HK.out m0 (by omega)
          have x0 : (m0 : Int) < 64 := by omega
          have x1 : (m1 : Int) < 64 := by omega
          have x2 : (m2 : Int) < 64 := by omega
          have x3 : (m3 : Int) < 64 := by omega
          have hm : (IntKind.u16.wrap (a - K m0), IntKind.u16.wrap (b - K m1), IntKind.u16.wrap (c - K m2), IntKind.u16.wrap (d - K m3)) = unmash K (a, b, c, d) := by
            rw [w16] at t0
            simp only [unmash, w16]
            rw [t3, t2, t1, t0]
          have HM := Lib.hid hm
          clear hm t0 t1 t2 t3
          go_wp2_with fail
          go_loop [6, 7, 8, 9, 10] (fun r0 r1 r2 r3 jj => ∃ (i : Nat) (J a b c d : Int), i ≤ 5 ∧ Hid (J = 19 - 4 * (i : Int)) ∧ r0 = .int .u16 a ∧ r1 = .int .u16 b ∧ r2 = .int .u16 c ∧ r3 = .int .u16 d ∧ jj = .int .i64 J ∧ Hid (Ok4 (a, b, c, d)) ∧ Hid ((a, b, c, d) = unrnds K 19 i (unmash K (unrnds K 43 6 (unmash K (unrnds K 63 5 (words src))))))) (fun _ _ _ _ jj => (100 + intOf jj).toNat)
          case atStart => exact ⟨0, 19, _, _, _, _, by omega, rfl, rfl, rfl, rfl, rfl, rfl, by rw [HM.out]; exact unmash_ok _ _, by rw [HM.out, HS.out]; rfl⟩
          case round =>
            obtain ⟨i, J, a, b, c, d, hi, HJ, rfl, rfl, rfl, rfl, rfl, HO, HS⟩ := hrel
            by_cases hlt : i < 5
            · obtain ⟨q, hq⟩ : ∃ q : Nat, J = (q : Int) + 3 := ⟨(J - 3).toNat, by have := HJ.out; omega⟩
              subst hq
              have hj := HJ.out
              have hj16 : (0 : Int) ≤ (q : Int) + 3 := by omega
              have c0 := HK.out q (by omega)
              have c1 := HK.out (q + 1) (by omega)
              have c2 := HK.out (q + 2) (by omega)
              have c3 := HK.out (q + 3) (by omega)
              have hq64 : (q : Int) + 3 < 64 := by omega
              obtain ⟨oa, ob, oc, od⟩ := HO.out
              simp only at oa ob oc od
              have na := u16_not a oa.1 oa.2
              have nb := u16_not b ob.1 ob.2
              have nc := u16_not c oc.1 oc.2
              have nw := not_wrap
              have OA := Lib.hid oa; have OB := Lib.hid ob; have OC := Lib.hid oc; have OD := Lib.hid od
              clear hj oa ob oc od
              go_wp2_with fail
              refine (rotl_11 _ _ OD.out.1 OD.out.2).mono ?_
              rintro E w' ⟨y3, rfl, p3, q3, H3, rfl⟩
              go_wp2_with fail
              refine (rotl_13 _ _ OC.out.1 OC.out.2).mono ?_
              rintro E w' ⟨y2, rfl, p2, q2, H2, rfl⟩
              go_wp2_with fail
              refine (rotl_14 _ _ OB.out.1 OB.out.2).mono ?_
              rintro E w' ⟨y1, rfl, p1, q1, H1, rfl⟩
              go_wp2_with fail
              refine (rotl_15 _ _ OA.out.1 OA.out.2).mono ?_
              rintro E w' ⟨y0, rfl, p0, q0, H0, rfl⟩
              go_wp2_with fail
              go_round
              case rel =>
                refine ⟨i + 1, _, _, _, _, _, by omega, ?_, rfl, rfl, rfl, rfl, rfl, ⟨⟨w16_nn _, w16_le _⟩, ⟨w16_nn _, w16_le _⟩, ⟨w16_nn _, w16_le _⟩, ⟨w16_nn _, w16_le _⟩⟩, ?_⟩
                · have := HJ.out
                  show _ = _
                  omega
                · have hr := unrnd_of (K := K) (q := q) H3.out rfl H2.out rfl H1.out rfl H0.out rfl
                  have hjq : q + 3 = 19 - 4 * i := by have := HJ.out; omega
                  show _ = _
                  rw [unrnds, ← HS.out, ← hjq, ← hr]
              case measure => simp [intOf]; omega
            · obtain rfl : i = 5 := by omega
              obtain rfl : J = -1 := by have := HJ.out; omega
              have hf : (a, b, c, d) = decS K (words src) := by
                have := HS.out
                unfold decS
                rw [this]
              have ha := HO.out.1; have hbb := HO.out.2.1; have hcc := HO.out.2.2.1; have hdd := HO.out.2.2.2
              simp only at ha hbb hcc hdd
              have HF := Lib.hid hf
              clear hf
              have hd0 := HD.out
              have hg0 := HG.out
              go_wp2_with fail
              go_still_tail 4, (by kernel_rfl)
              go_wp2_with fail
              refine (putUint16_any gd 0 _ _ t _ a _ (by omega) (hd0.drewN 1) (by simp [HO8.out]) ha.1 ha.2).mono ?_
              rintro E v1 ⟨rfl, hd1, hq1⟩
              have hg1 : w.grownBy v1 (some gd) := (grown_drewN hg0 1).trans hq1
              go_wp2_with fail
              go_still_tail 4, (by kernel_rfl)
              go_wp2_with fail
              refine (putUint16_any gd 2 _ _ t _ b _ (by omega) (hd1.drewN 1) (by simp [HO8.out]) hbb.1 hbb.2).mono ?_
              rintro E v2 ⟨rfl, hd2, hq2⟩
              have hg2 : w.grownBy v2 (some gd) := (grown_drewN hg1 1).trans hq2
              go_wp2_with fail
              go_still_tail 4, (by kernel_rfl)
              go_wp2_with fail
              refine (putUint16_any gd 4 _ _ t _ c _ (by omega) (hd2.drewN 1) (by simp [HO8.out]) hcc.1 hcc.2).mono ?_
              rintro E v3 ⟨rfl, hd3, hq3⟩
              have hg3 : w.grownBy v3 (some gd) := (grown_drewN hg2 1).trans hq3
              go_wp2_with fail
              go_still_tail 4, (by kernel_rfl)
              go_wp2_with fail
              refine (putUint16_any gd 6 _ _ t _ d _ (by omega) (hd3.drewN 1) (by simp [HO8.out]) hdd.1 hdd.2).mono ?_
              rintro E v4 ⟨rfl, hd4, hq4⟩
              have hg4 : w.grownBy v4 (some gd) := (grown_drewN hg3 1).trans hq4
              go_wp2_with fail
              go_end0
              refine ⟨rfl, ?_, hg4⟩
              rw [← HF.out, ← put8 old HO8.out a b c d]
              exact hd4
end Go.Proofs.YtlnifplomlnoiaaDoor
