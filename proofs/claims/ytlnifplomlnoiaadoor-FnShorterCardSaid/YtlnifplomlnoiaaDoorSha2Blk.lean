/- The library's SHA-256 block function, whatever the table that the package's variable holds. Whole blocks; at most 2^20 bytes. -/
import Derived.Test.YtlnifplomlnoiaaDoorSha2Fn
import Derived.Test.YtlnifplomlnoiaaDoorSha1
import Derived.Deep.CutRange
import Derived.BigRegion
namespace Go.Proofs.YtlnifplomlnoiaaDoor
open Go.RowKit

theorem info106 : (Tryd.prog.info? 106).map (fun i => (i.zero, i.size, i.bytes)) = some (some (.agg (uvals (List.replicate 64 0)).toArray), 64, 256) := by kernel_rfl

/-- The package's table in memory. -/
def KAt (w : World) (K : Nat → Int) : Prop := ∀ i, i < 64 → w.cell? ⟨7, i, none⟩ = some (.int .u32 (K i))

set_option maxRecDepth 1000000 in
set_option maxHeartbeats 8000000 in
theorem blockGen_any (D g o c m : Nat) (s0 : S8) (x P : List Int) (nx len : Int) (K : Nat → Int) (r : Nat) (hr64 : r = 64) (w : World) (hD : Blk w D 162 (dg s0 x nx len)) (hx : x.length = 64) (hm : m ≤ 16384) (hc : 64 * m ≤ c)
    (hP : ∀ j, j < 64 * m → w.cell? ⟨g, o + j, none⟩ = some (.int .u8 (P.getD j 0))) (hg : g < w.heap.size) (hK : KAt w K) (h7 : 7 < w.heap.size) :
    Calls Tryd.prog 102 #[.pointer (some ⟨D, 0, none⟩), .slice (some ⟨g, o, none⟩) (64 * m) c] w fun E w' => E = .returned (.tuple #[]) ∧ Blk w' D 162 (dg (kBlocks r K P s0 m).2 x nx len) ∧ w.grownBy w' (some D) := by
  obtain ⟨j0, hj, hy0, hy1, hy2⟩ := info_parts info106
  obtain ⟨S, HS⟩ : ∃ S, Hid (S = s0) := ⟨_, rfl⟩
  have HD := Lib.hid hD
  have HR64 := Lib.hid hr64
  have HX := Lib.hid hx
  have HP := Lib.hid hP
  have HG := Lib.hid hg
  have HK := Lib.hid hK
  have H7 := Lib.hid h7
  obtain ⟨L, hL⟩ : ∃ L, 64 * m = L := ⟨_, rfl⟩
  rw [hL] at hc ⊢
  have HL := Lib.hid hL
  obtain ⟨a, b, c', d, e, f, g', hz⟩ := s0
  have c0 : w.cell? ⟨D, 0, none⟩ = some (.int .u32 a) := by rw [hD.cell]; rfl
  have c1 : w.cell? ⟨D, 1, none⟩ = some (.int .u32 b) := by rw [hD.cell]; rfl
  have c2 : w.cell? ⟨D, 2, none⟩ = some (.int .u32 c') := by rw [hD.cell]; rfl
  have c3 : w.cell? ⟨D, 3, none⟩ = some (.int .u32 d) := by rw [hD.cell]; rfl
  have c4 : w.cell? ⟨D, 4, none⟩ = some (.int .u32 e) := by rw [hD.cell]; rfl
  have c5 : w.cell? ⟨D, 5, none⟩ = some (.int .u32 f) := by rw [hD.cell]; rfl
  have c6 : w.cell? ⟨D, 6, none⟩ = some (.int .u32 g') := by rw [hD.cell]; rfl
  have c7 : w.cell? ⟨D, 7, none⟩ = some (.int .u32 hz) := by rw [hD.cell]; rfl
  have hDl := hD.lt
  clear hD hx hP hg hK h7 hL hr64
  go_enter Tryd.func102, Tryd.ntmps102
  go_wp2_with (refine wpList_alloc_arr rfl 106 rfl _ j0 hj hy0 ?_; intro w1 Wb HWb hWb hb1 hs1; replace hWb := Lib.hid hWb)
  have HD1 := Lib.hid (HD.out.below hb1 hDl)
  have hWl : Hid (w.heap.size ≤ Wb) := by have := HWb.out; show _ ≤ _; omega
  have HB1 := Lib.hid hb1
  clear HWb hs1
  have d0 : w1.cell? ⟨D, 0, none⟩ = some (.int .u32 a) := (hb1.cell (p := ⟨D, 0, none⟩) hDl).trans c0
  have d1 : w1.cell? ⟨D, 1, none⟩ = some (.int .u32 b) := (hb1.cell (p := ⟨D, 1, none⟩) hDl).trans c1
  have d2 : w1.cell? ⟨D, 2, none⟩ = some (.int .u32 c') := (hb1.cell (p := ⟨D, 2, none⟩) hDl).trans c2
  have d3 : w1.cell? ⟨D, 3, none⟩ = some (.int .u32 d) := (hb1.cell (p := ⟨D, 3, none⟩) hDl).trans c3
  have d4 : w1.cell? ⟨D, 4, none⟩ = some (.int .u32 e) := (hb1.cell (p := ⟨D, 4, none⟩) hDl).trans c4
  have d5 : w1.cell? ⟨D, 5, none⟩ = some (.int .u32 f) := (hb1.cell (p := ⟨D, 5, none⟩) hDl).trans c5
  have d6 : w1.cell? ⟨D, 6, none⟩ = some (.int .u32 g') := (hb1.cell (p := ⟨D, 6, none⟩) hDl).trans c6
  have d7 : w1.cell? ⟨D, 7, none⟩ = some (.int .u32 hz) := (hb1.cell (p := ⟨D, 7, none⟩) hDl).trans c7
  clear c0 c1 c2 c3 c4 c5 c6 c7 hb1
  go_wp2_with fail
  go_quiet (fail)
  go_wp2_with fail
  obtain ⟨w2, hw2⟩ : ∃ w2, w2 = w1.drewN nq := ⟨_, rfl⟩
  have HD2 : Hid (Blk w2 D 162 (dg S x nx len)) := by rw [hw2, HS.out]; exact HD1.out.drewN _
  have HB2 : Hid (Below w.heap.size w w2) := by rw [hw2]; exact below_drewN HB1.out _
  have hWb2 : Hid (Blk w2 Wb 106 (uvals (kBlocks r K P S 0).1)) := by rw [hw2]; exact hWb.out.drewN _
  have HS0 : Hid ((a, b, c', d, e, f, g', hz) = (kBlocks r K P S 0).2) := HS.out.symm
  have HSS := HS
  rw [← hw2]
  clear hw2 d0 d1 d2 d3 d4 d5 d6 d7 HD1 HB1 hWb HS HD
  go_loopw [1, 5, 6, 7, 8, 9, 10, 11, 12] (fun vp v5 v6 v7 v8 v9 v10 v11 v12 wr => ∃ (k n' : Nat) (A : Option Addr) (c2 : Nat) (a b c' d e f g' hz : Int), k ≤ m ∧ vp = .slice A n' c2 ∧ Hid (n' + 64 * k = L) ∧ n' ≤ c2 ∧ Hid (k < m → A = some ⟨g, o + 64 * k, none⟩) ∧ v5 = .int .u32 a ∧ v6 = .int .u32 b ∧ v7 = .int .u32 c' ∧ v8 = .int .u32 d ∧ v9 = .int .u32 e ∧ v10 = .int .u32 f ∧ v11 = .int .u32 g' ∧ v12 = .int .u32 hz ∧ Hid ((a, b, c', d, e, f, g', hz) = (kBlocks r K P S k).2) ∧ Hid (Blk wr Wb 106 (uvals (kBlocks r K P S k).1)) ∧ Hid (Below Wb w2 wr)) (fun vp _ _ _ _ _ _ _ _ _ => match vp with | .slice _ n _ => n | _ => 0)
  case atStart => exact ⟨0, L, _, c, _, _, _, _, _, _, _, _, by omega, rfl, rfl, hc, fun _ => rfl, rfl, rfl, rfl, rfl, rfl, rfl, rfl, rfl, HS0, hWb2, Below.refl _ _⟩
  case round =>
    clear HS0 hWb2
    obtain ⟨k, n', A, c2, a, b, c', d, e, f, g', hz, hkm, rfl, HN, hnc, HA, rfl, rfl, rfl, rfl, rfl, rfl, rfl, rfl, HS, HW, HBw⟩ := hrel
    by_cases hlt : k < m
    · obtain rfl := HA.out hlt
      obtain ⟨t, ht⟩ : ∃ t, 64 * k = t := ⟨_, rfl⟩
      have HT := Lib.hid ht
      obtain ⟨ot, hot⟩ : ∃ ot, o + 64 * k = ot := ⟨_, rfl⟩
      rw [hot]
      have HOT : Hid (ot = o + t) := by show _ = _; omega
      have hn64 : 64 ≤ n' := by have := HN.out; have := HL.out; omega
      have HTL : Hid (t + 64 ≤ L) := by have := HL.out; show _ ≤ _; omega
      have bn : (64 : Int) ≤ (n' : Int) := by omega
      obtain ⟨l0, Hl0⟩ : ∃ l0, Hid (l0 = (kBlocks r K P S k).1) := ⟨_, rfl⟩
      have Hl64 : Hid (l0.length = 64) := by show _ = _; rw [Hl0.out, kBlocks_length]
      rw [← Hl0.out] at HW
      have HR0 : Hid ((l0, (a, b, c', d, e, f, g', hz)) = kRs K P t l0 (a, b, c', d, e, f, g', hz) 0) := rfl
      clear HA ht hot
      go_wp2_with fail
      go_loopw [13, 14, 15, 16, 17, 18, 19, 20, 80] (fun va vb vc vd ve vf vg vh ii wr => ∃ (i : Nat) (wl : List Int) (a1 b1 c1 d1 e1 f1 g1 h1 : Int), i ≤ 64 ∧ va = .int .u32 a1 ∧ vb = .int .u32 b1 ∧ vc = .int .u32 c1 ∧ vd = .int .u32 d1 ∧ ve = .int .u32 e1 ∧ vf = .int .u32 f1 ∧ vg = .int .u32 g1 ∧ vh = .int .u32 h1 ∧ ii = .int .i64 (i : Int) ∧ Hid ((wl, (a1, b1, c1, d1, e1, f1, g1, h1)) = kRs K P t l0 (a, b, c', d, e, f, g', hz) i) ∧ Hid (Blk wr Wb 106 (uvals wl)) ∧ Hid (Below Wb w2 wr)) (fun _ _ _ _ _ _ _ _ ii _ => 64 - (intOf ii).toNat)
      case atStart => exact ⟨0, l0, _, _, _, _, _, _, _, _, by omega, rfl, rfl, rfl, rfl, rfl, rfl, rfl, rfl, rfl, HR0, HW, HBw⟩
      case round =>
        clear HW HBw HR0
        obtain ⟨i, wl, a1, b1, c1, d1, e1, f1, g1, h1, hi64, rfl, rfl, rfl, rfl, rfl, rfl, rfl, rfl, rfl, HR, HW, HBw⟩ := hrel
        by_cases hi : i < 64
        · have bi : (i : Int) < 64 := by omega
          have Hwl : Hid (wl.length = 64) := by
            have := kRs_length K P t l0 (a, b, c', d, e, f, g', hz) Hl64.out i
            rw [← HR.out] at this
            exact this
          obtain ⟨y, HY⟩ : ∃ y, Hid (y = kWord P t wl i) := ⟨_, rfl⟩
          have HPc : Hid (∀ j, j < L → wr.cell? ⟨g, o + j, none⟩ = some (.int .u8 (P.getD j 0))) := fun j hj => ((HBw.out.cell (p := ⟨g, o + j, none⟩) (by have h1 := HG.out; have h2 := hWl.out; exact Nat.lt_of_lt_of_le h1 h2)).trans (HB2.out.cell (p := ⟨g, o + j, none⟩) HG.out)).trans (HP.out j (by have := HL.out; omega))
          obtain ⟨old, co⟩ : ∃ v, wr.cell? ⟨Wb, i, none⟩ = some v := ⟨_, (HW.out.cell _).trans (uvals_get (by rw [Hwl.out]; exact hi))⟩
          have fo : wr.frozen? ⟨Wb, i, none⟩ = false := HW.out.frozen _
          go_upto_if 84 with fail
          go_cut [21, 80] from 81 to 216 (fun s21 s80 wx => s21 = .int .i64 (i : Int) ∧ s80 = .int .i64 (i : Int) ∧ Hid (Blk wx Wb 106 (uvals (wl.set i y))) ∧ Hid (Below Wb w2 wx))
          case first =>
            by_cases h16 : i < 16
            · have b16 : (i : Int) < 16 := by omega
              as_aux_lemma =>
                obtain ⟨q, hq⟩ : ∃ q : Nat, (i : Int) * 4 = (q : Int) := ⟨i * 4, by omega⟩
                obtain ⟨q1, hq1⟩ : ∃ q1 : Nat, (q : Int) + 1 = (q1 : Int) := ⟨q + 1, by omega⟩
                obtain ⟨q2, hq2⟩ : ∃ q2 : Nat, (q : Int) + 2 = (q2 : Int) := ⟨q + 2, by omega⟩
                obtain ⟨q3, hq3⟩ : ∃ q3 : Nat, (q : Int) + 3 = (q3 : Int) := ⟨q + 3, by omega⟩
                have wq : IntKind.i64.wrap (q : Int) = (q : Int) := IntWalk.i64_in _ (by omega)
                have wq1 : IntKind.i64.wrap (q1 : Int) = (q1 : Int) := IntWalk.i64_in _ (by omega)
                have wq2 : IntKind.i64.wrap (q2 : Int) = (q2 : Int) := IntWalk.i64_in _ (by omega)
                have wq3 : IntKind.i64.wrap (q3 : Int) = (q3 : Int) := IntWalk.i64_in _ (by omega)
                have bq : (q : Int) < (n' : Int) := by omega
                have bq1 : (q1 : Int) < (n' : Int) := by omega
                have bq2 : (q2 : Int) < (n' : Int) := by omega
                have bq3 : (q3 : Int) < (n' : Int) := by omega
                have cq : wr.cell? ⟨g, ot + q, none⟩ = some (.int .u8 (P.getD (t + 4 * i) 0)) := by
                  rw [show ot + q = o + (t + 4 * i) by have := HOT.out; omega]
                  exact HPc.out _ (by have := HTL.out; omega)
                have cq1 : wr.cell? ⟨g, ot + q1, none⟩ = some (.int .u8 (P.getD (t + 4 * i + 1) 0)) := by
                  rw [show ot + q1 = o + (t + 4 * i + 1) by have := HOT.out; omega]
                  exact HPc.out _ (by have := HTL.out; omega)
                have cq2 : wr.cell? ⟨g, ot + q2, none⟩ = some (.int .u8 (P.getD (t + 4 * i + 2) 0)) := by
                  rw [show ot + q2 = o + (t + 4 * i + 2) by have := HOT.out; omega]
                  exact HPc.out _ (by have := HTL.out; omega)
                have cq3 : wr.cell? ⟨g, ot + q3, none⟩ = some (.int .u8 (P.getD (t + 4 * i + 3) 0)) := by
                  rw [show ot + q3 = o + (t + 4 * i + 3) by have := HOT.out; omega]
                  exact HPc.out _ (by have := HTL.out; omega)
                obtain ⟨p0, P0⟩ : ∃ p, Hid (p = P.getD (t + 4 * i) 0) := ⟨_, rfl⟩
                obtain ⟨p1, P1⟩ : ∃ p, Hid (p = P.getD (t + 4 * i + 1) 0) := ⟨_, rfl⟩
                obtain ⟨p2, P2⟩ : ∃ p, Hid (p = P.getD (t + 4 * i + 2) 0) := ⟨_, rfl⟩
                obtain ⟨p3, P3⟩ : ∃ p, Hid (p = P.getD (t + 4 * i + 3) 0) := ⟨_, rfl⟩
                rw [← P0.out] at cq
                rw [← P1.out] at cq1
                rw [← P2.out] at cq2
                rw [← P3.out] at cq3
                have HV : Hid (y = beV p0 p1 p2 p3) := by show _ = _; rw [HY.out, kWord, if_pos h16, P0.out, P1.out, P2.out, P3.out]
                go_wp2_with fail
                go_still_tail 31, (by kernel_rfl)
                go_wp2_with fail
                go_meet
                refine ⟨rfl, rfl, ?_, ?_⟩
                · show Blk _ _ _ _
                  rw [HV.out, ← uvals_set]
                  exact (HW.out.drewN 1).set_ _ _
                · exact (below_drewN HBw.out 1).setCell (p := ⟨Wb, i, none⟩) (Nat.le_refl _) _
            · have b16 : ¬ (i : Int) < 16 := by omega
              as_aux_lemma =>
                obtain ⟨p2, h2⟩ : ∃ p : Nat, (i : Int) - 2 = (p : Int) := ⟨i - 2, by omega⟩
                obtain ⟨p7, h7'⟩ : ∃ p : Nat, (i : Int) - 7 = (p : Int) := ⟨i - 7, by omega⟩
                obtain ⟨p15, h15⟩ : ∃ p : Nat, (i : Int) - 15 = (p : Int) := ⟨i - 15, by omega⟩
                obtain ⟨p16, h16'⟩ : ∃ p : Nat, (i : Int) - 16 = (p : Int) := ⟨i - 16, by omega⟩
                have w2' : IntKind.i64.wrap (p2 : Int) = (p2 : Int) := IntWalk.i64_in _ (by omega)
                have w7' : IntKind.i64.wrap (p7 : Int) = (p7 : Int) := IntWalk.i64_in _ (by omega)
                have w15' : IntKind.i64.wrap (p15 : Int) = (p15 : Int) := IntWalk.i64_in _ (by omega)
                have w16' : IntKind.i64.wrap (p16 : Int) = (p16 : Int) := IntWalk.i64_in _ (by omega)
                have b2 : (p2 : Int) < 64 := by omega
                have b7 : (p7 : Int) < 64 := by omega
                have b15 : (p15 : Int) < 64 := by omega
                have b16' : (p16 : Int) < 64 := by omega
                have HPP : Hid (p2 = i - 2 ∧ p7 = i - 7 ∧ p15 = i - 15 ∧ p16 = i - 16) := ⟨by omega, by omega, by omega, by omega⟩
                obtain ⟨x2, X2⟩ : ∃ x, Hid (x = wl.getD p2 0) := ⟨_, rfl⟩
                obtain ⟨x7, X7⟩ : ∃ x, Hid (x = wl.getD p7 0) := ⟨_, rfl⟩
                obtain ⟨x15, X15⟩ : ∃ x, Hid (x = wl.getD p15 0) := ⟨_, rfl⟩
                obtain ⟨x16, X16⟩ : ∃ x, Hid (x = wl.getD p16 0) := ⟨_, rfl⟩
                have k2 : wr.cell? ⟨Wb, p2, none⟩ = some (.int .u32 x2) := by rw [HW.out.cell, uvals_get (by rw [Hwl.out]; omega), X2.out]
                have k7 : wr.cell? ⟨Wb, p7, none⟩ = some (.int .u32 x7) := by rw [HW.out.cell, uvals_get (by rw [Hwl.out]; omega), X7.out]
                have k15 : wr.cell? ⟨Wb, p15, none⟩ = some (.int .u32 x15) := by rw [HW.out.cell, uvals_get (by rw [Hwl.out]; omega), X15.out]
                have k16 : wr.cell? ⟨Wb, p16, none⟩ = some (.int .u32 x16) := by rw [HW.out.cell, uvals_get (by rw [Hwl.out]; omega), X16.out]
                have HV : Hid (y = (((kT1 x2 + x7) % 4294967296 + kT2 x15) % 4294967296 + x16) % 4294967296) := by
                  show _ = _
                  rw [HY.out, kWord, if_neg h16, kExt, ← HPP.out.1, ← HPP.out.2.1, ← HPP.out.2.2.1, ← HPP.out.2.2.2, X2.out, X7.out, X15.out, X16.out]
                go_wp2_with fail
                refine (rotl32_q _ _ (by decide) _).mono ?_
                rintro E w9 ⟨rfl, rfl⟩
                go_wp2_with fail
                refine (rotl32_q _ _ (by decide) _).mono ?_
                rintro E w9 ⟨rfl, rfl⟩
                go_wp2_with fail
                refine (rotl32_q _ _ (by decide) _).mono ?_
                rintro E w9 ⟨rfl, rfl⟩
                go_wp2_with fail
                refine (rotl32_q _ _ (by decide) _).mono ?_
                rintro E w9 ⟨rfl, rfl⟩
                go_wp2_with fail
                go_still_tail 15, (by kernel_rfl)
                go_wp2_with fail
                go_meet
                refine ⟨rfl, rfl, ?_, ?_⟩
                · show Blk _ _ _ _
                  rw [HV.out, ← uvals_set]
                  exact (HW.out.drewN 1).set_ _ _
                · exact (below_drewN HBw.out 1).setCell (p := ⟨Wb, i, none⟩) (Nat.le_refl _) _
          case rest =>
            obtain ⟨rfl, rfl, HWc, HBc⟩ := hcut
            as_aux_lemma =>
              clear co fo HPc
              obtain ⟨kk, Hkk⟩ : ∃ kk, Hid (kk = K i) := ⟨_, rfl⟩
              have cy : wc.cell? ⟨Wb, i, none⟩ = some (.int .u32 y) := by
                rw [HWc.out.cell, ← uvals_set, List.getElem?_set_self (by rw [uvals_length, Hwl.out]; exact hi)]
              have ck : wc.cell? ⟨7, i, none⟩ = some (.int .u32 kk) := by
                rw [Hkk.out]
                exact ((HBc.out.cell (p := ⟨7, i, none⟩) (Nat.lt_of_lt_of_le H7.out hWl.out)).trans (HB2.out.cell (p := ⟨7, i, none⟩) H7.out)).trans (HK.out i hi)
              go_wp2_with fail
              go_quiet (exact (rotl32_any _ _ (by decide) _).mono fun _ _ h => ⟨h.1, _, h.2⟩)
              go_wp2_with fail
              refine (rotl32_q _ _ (by decide) _).mono ?_
              rintro E w9 ⟨rfl, rfl⟩
              go_wp2_with fail
              refine (rotl32_q _ _ (by decide) _).mono ?_
              rintro E w9 ⟨rfl, rfl⟩
              go_wp2_with fail
              refine (rotl32_q _ _ (by decide) _).mono ?_
              rintro E w9 ⟨rfl, rfl⟩
              go_wp2_with fail
              go_roundw
              case rel =>
                refine ⟨i + 1, wl.set i y, _, _, _, _, _, _, _, _, by omega, rfl, rfl, rfl, rfl, rfl, rfl, rfl, rfl, by go_num, ?_, HWc.out.drewN _, below_drewN HBc.out _⟩
                show _ = ((kRs K P t l0 (a, b, c', d, e, f, g', hz) i).1.set i (kWord P t (kRs K P t l0 (a, b, c', d, e, f, g', hz) i).1 i), kR (K i) (((kRs K P t l0 (a, b, c', d, e, f, g', hz) i).1.set i (kWord P t (kRs K P t l0 (a, b, c', d, e, f, g', hz) i).1 i)).getD i 0) (kRs K P t l0 (a, b, c', d, e, f, g', hz) i).2)
                rw [← HR.out]
                show _ = (wl.set i (kWord P t wl i), kR (K i) ((wl.set i (kWord P t wl i)).getD i 0) (a1, b1, c1, d1, e1, f1, g1, h1))
                have hy : (wl.set i y).getD i 0 = y := by
                  rw [List.getD_eq_getElem?_getD, List.getElem?_set_self (by rw [Hwl.out]; exact hi)]
                  rfl
                rw [← HY.out, hy, ← Hkk.out]
                refine congrArg (Prod.mk _) ?_
                simp only [kR]
              case measure => simp [intOf]; omega
        · have hi0 : ¬ (i : Int) < 64 := by omega
          have hie : i = 64 := by omega
          rw [hie, ← HR64.out] at HR
          as_aux_lemma =>
            clear hi hi64 hie
            have HHk : Hid ((a, b, c', d, e, f, g', hz) = (kBlocks r K P S k).2 ∧ wl = (kBlocks r K P S (k + 1)).1 ∧ kAdd (a, b, c', d, e, f, g', hz) (a1, b1, c1, d1, e1, f1, g1, h1) = (kBlocks r K P S (k + 1)).2) := by
              refine ⟨HS.out, ?_, ?_⟩
              · rw [kBlocks, ← HS.out, ← Hl0.out, HT.out, ← HR.out]
              · rw [kBlocks, ← HS.out, ← Hl0.out, HT.out, ← HR.out]
            rw [HHk.out.2.1] at HW
            by_cases hc64 : c2 = 64
            all_goals
              go_wp2_with fail
              go_roundw
              case rel =>
                refine ⟨k + 1, n' - 64, _, _, _, _, _, _, _, _, _, _, by omega, rfl, ?_, by omega, ?_, rfl, rfl, rfl, rfl, rfl, rfl, rfl, rfl, HHk.out.2.2, HW, HBw⟩
                · have := HN.out; show _ = _; omega
                · intro hk1
                  have h1 := HN.out
                  have h2 := HL.out
                  have h3 := HOT.out
                  have h4 := HT.out
                  first
                    | (exfalso; omega)
                    | exact congrArg (fun z => some (⟨g, z, none⟩ : Addr)) (by omega)
              case measure => simp; omega
    · have hk : k = m := by omega
      have hn0 : n' = 0 := by have := HN.out; have := HL.out; omega
      subst hn0
      rw [hk] at HS HW
      clear hlt hkm HA HN hnc
      have HD4 : Hid (Blk wr D 162 (dg S x nx len)) := HD2.out.below HBw.out (by have := hWl.out; omega)
      have z0 : wr.frozen? ⟨D, 0, none⟩ = false := HD4.out.frozen _
      have z1 : wr.frozen? ⟨D, 1, none⟩ = false := HD4.out.frozen _
      have z2 : wr.frozen? ⟨D, 2, none⟩ = false := HD4.out.frozen _
      have z3 : wr.frozen? ⟨D, 3, none⟩ = false := HD4.out.frozen _
      have z4 : wr.frozen? ⟨D, 4, none⟩ = false := HD4.out.frozen _
      have z5 : wr.frozen? ⟨D, 5, none⟩ = false := HD4.out.frozen _
      have z6 : wr.frozen? ⟨D, 6, none⟩ = false := HD4.out.frozen _
      have z7 : wr.frozen? ⟨D, 7, none⟩ = false := HD4.out.frozen _
      obtain ⟨s0, s1, s2, s3, s4, s5, s6, s7⟩ := S
      have y0 : wr.cell? ⟨D, 0, none⟩ = some (.int .u32 s0) := by rw [HD4.out.cell]; rfl
      have y1 : wr.cell? ⟨D, 1, none⟩ = some (.int .u32 s1) := by rw [HD4.out.cell]; rfl
      have y2 : wr.cell? ⟨D, 2, none⟩ = some (.int .u32 s2) := by rw [HD4.out.cell]; rfl
      have y3 : wr.cell? ⟨D, 3, none⟩ = some (.int .u32 s3) := by rw [HD4.out.cell]; rfl
      have y4 : wr.cell? ⟨D, 4, none⟩ = some (.int .u32 s4) := by rw [HD4.out.cell]; rfl
      have y5 : wr.cell? ⟨D, 5, none⟩ = some (.int .u32 s5) := by rw [HD4.out.cell]; rfl
      have y6 : wr.cell? ⟨D, 6, none⟩ = some (.int .u32 s6) := by rw [HD4.out.cell]; rfl
      have y7 : wr.cell? ⟨D, 7, none⟩ = some (.int .u32 s7) := by rw [HD4.out.cell]; rfl
      go_wp2_with fail
      go_region
      go_end0
      have hW : Hid (w.grownBy wr (some D)) := below_grown (HB2.out.trans (HBw.out.mono hWl.out)) _
      refine ⟨rfl, ?_, ?_⟩
      · rw [← HSS.out, ← HS.out]
        have h := (((((((HD4.out.set_ 0 (.int .u32 a)).set_ 1 (.int .u32 b)).set_ 2 (.int .u32 c')).set_ 3 (.int .u32 d)).set_ 4 (.int .u32 e)).set_ 5 (.int .u32 f)).set_ 6 (.int .u32 g')).set_ 7 (.int .u32 hz)
        have e' : ((((((((dg (s0, s1, s2, s3, s4, s5, s6, s7) x nx len).set 0 (.int .u32 a)).set 1 (.int .u32 b)).set 2 (.int .u32 c')).set 3 (.int .u32 d)).set 4 (.int .u32 e)).set 5 (.int .u32 f)).set 6 (.int .u32 g')).set 7 (.int .u32 hz) = dg (a, b, c', d, e, f, g', hz) x nx len := rfl
        rw [e'] at h
        exact h.drewN 1
      · exact grown_drewN (grown_setCell (grown_setCell (grown_setCell (grown_setCell (grown_setCell (grown_setCell (grown_setCell (grown_setCell hW.out _ _) _ _) _ _) _ _) _ _) _ _) _ _) _ _) 1
end Go.Proofs.YtlnifplomlnoiaaDoor
