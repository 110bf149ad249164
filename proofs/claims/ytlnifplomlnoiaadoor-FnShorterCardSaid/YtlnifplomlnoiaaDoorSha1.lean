/- zzSHA1: the program's own text answers the function sha1 of what it reads, in new memory. Texts of at most 2^20 bytes. -/
import Derived.Test.YtlnifplomlnoiaaDoorSha1Fn
import Derived.StillTailTactics
import Derived.Deep.CutRange
import Derived.Deep.RegionWith
namespace Go.Proofs.YtlnifplomlnoiaaDoor
open Go.RowKit

theorem info118 : (Tryd.prog.info? 118).map (fun i => (i.zero, i.size, i.bytes)) = some (some (.agg (uvals (List.replicate 5 0)).toArray), 5, 20) := by kernel_rfl
theorem info101 : (Tryd.prog.info? 101).map (fun i => (i.zero, i.size, i.bytes)) = some (some (.agg (uvals (List.replicate 80 0)).toArray), 80, 320) := by kernel_rfl

/-- A row of the call's own that is not empty, as a block that is known whole. -/
theorem own_blk {w : World} {B : Nat} {e : TypeId} {v : Value} {n : Nat} {xs : List Value} (h : w.ownsRow B e 1 v n xs) (hn : 0 < n) :
    ∃ g cap cs, v = .slice (some ⟨g, 0, none⟩) n cap ∧ B ≤ g ∧ Blk w g e cs ∧ cs.take n = xs ∧ n ≤ cap ∧ cs.length = cap := by
  rcases h.2 with ⟨_, h0⟩ | ⟨g, cap, cur, rfl, hb, hh, hc, _, hs, ht⟩
  · omega
  · refine ⟨g, cap, cur.toList, rfl, hb, ?_, by simpa using ht, hc, by simpa using hs⟩
    show _ = _
    simpa using hh
theorem take_get {cs xs : List Value} {n : Nat} (h : cs.take n = xs) {i : Nat} (hi : i < n) : cs[i]? = xs[i]? := by
  rw [← h, List.getElem?_take]
  simp [hi]

theorem rot1 (x : Int) (w : World) : Calls Tryd.prog 84 #[.int .u32 x, .int .u64 1] w fun E w' => E = .returned (.int .u32 (rotU 1 x)) ∧ w' = w :=
  (rotate_any x 1 (Or.inl rfl) w).mono fun _ _ h => ⟨h.1, h.2.symm⟩
theorem rotZ (x n : Int) (h : n = 1 ∨ n = 5 ∨ n = 30) (w : World) : Calls Tryd.prog 84 #[.int .u32 x, .int .u64 n] w fun E w' => E = .returned (.int .u32 (rotU n.toNat x)) ∧ w' = w := by
  rcases h with rfl | rfl | rfl
  · exact (rotate_any x 1 (Or.inl rfl) w).mono fun _ _ h => ⟨h.1, h.2.symm⟩
  · exact (rotate_any x 5 (Or.inr (Or.inl rfl)) w).mono fun _ _ h => ⟨h.1, h.2.symm⟩
  · exact (rotate_any x 30 (Or.inr (Or.inr rfl)) w).mono fun _ _ h => ⟨h.1, h.2.symm⟩

theorem index118' (a b c d e : Int) : ∀ (j : Fin 5) (w : World), (Instr.index 118 (.agg #[.int .u32 a, .int .u32 b, .int .u32 c, .int .u32 d, .int .u32 e]) (.int .i64 (j.val : Int))).run Tryd.prog w = .ok (.int .u32 (match j with | 0 => a | 1 => b | 2 => c | 3 => d | 4 => e)) w
  | 0, w => by kernel_rfl
  | 1, w => by kernel_rfl
  | 2, w => by kernel_rfl
  | 3, w => by kernel_rfl
  | 4, w => by kernel_rfl
theorem index118 (a b c d e : Int) (j : Nat) (hj : j < 5) (w : World) : (Instr.index 118 (.agg #[.int .u32 a, .int .u32 b, .int .u32 c, .int .u32 d, .int .u32 e]) (.int .i64 (j : Int))).run Tryd.prog w = .ok (.int .u32 ((sl (a, b, c, d, e)).getD j 0)) w := by
  have h : j = 0 ∨ j = 1 ∨ j = 2 ∨ j = 3 ∨ j = 4 := by omega
  rcases h with rfl | rfl | rfl | rfl | rfl
  · exact index118' a b c d e 0 w
  · exact index118' a b c d e 1 w
  · exact index118' a b c d e 2 w
  · exact index118' a b c d e 3 w
  · exact index118' a b c d e 4 w

set_option maxRecDepth 1000000 in
set_option maxHeartbeats 8000000 in
theorem sha1_any (A : Option Addr) (n c : Nat) (l : List Int) (w : World) (B : Nat) (hB : B ≤ w.heap.size) (hr : Rd w B A n (ivals l)) (hn : n ≤ 1048576) :
    Calls Tryd.prog 67 #[.slice A n c] w fun E w' => ∃ v, E = .returned v ∧ w'.ownsRow w.heap.size 5 1 v 20 (ivals (sha1 l)) ∧ Below w.heap.size w w' := by
  obtain ⟨i0, hi, hz0, hz1, hz2⟩ := info_parts info118
  obtain ⟨j0, hj, hy0, hy1, hy2⟩ := info_parts info101
  have hl : l.length = n := by rw [← ivals_length]; exact hr.1
  have HL := Lib.hid hl
  have HR := Lib.hid hr
  obtain ⟨M, HM⟩ : ∃ M, Hid (M = pad1 l) := ⟨_, rfl⟩
  obtain ⟨N, HN⟩ : ∃ N, Hid (N = (n + 72) / 64) := ⟨_, rfl⟩
  have hMl : M.length = 64 * N := by rw [HM.out, pad1_length, HN.out, hl]; omega
  have hN1 : 1 ≤ N := by rw [HN.out]; omega
  have hN2 : N ≤ 16386 := by rw [HN.out]; omega
  have HML := Lib.hid hMl
  clear hl hr hMl
  go_enter Tryd.func67, Tryd.ntmps67
  go_wp2_with (first | (refine wpList_alloc_arr rfl 118 rfl _ i0 hi hz0 ?_; intro w1 Hb HHb hHb hb1 hs1) | (refine wpList_store_blk rfl 118 (.tmp 3) (.tmp 20) rfl Hb 118 _ (uvals (sl sInit)) rfl rfl hHb rfl (by rw [hi]; simp [hz1]; rfl) uvals_one ?_; intro w2 hH2 hg2 hs2; replace hH2 := Lib.hid hH2))
  have HB2 : Hid (Below w.heap.size w w2) := hb1.trans (below_of_grown hg2 (by rw [HHb.out]; exact Nat.le_refl _) hb1.size)
  have hw2 : Hid (w2.heap.size = Hb + 1 ∧ Hb = w.heap.size) := ⟨hs2.trans hs1.out, HHb.out⟩
  clear hb1 hg2 hs2 hHb
  refine (padded_any A n c l w2 w.heap.size ((HR.out.more (by have := hw2.out; omega)).below (HB2.out)) hn).mono ?_
  rintro E w3 ⟨v, rfl, ho, hb3⟩
  rw [← HM.out] at ho
  obtain ⟨g, cap, cs, rfl, hg, hM, hcs, hcap, hcl⟩ := own_blk ho (by have := HML.out; omega)
  rw [HML.out] at hcs hcap ⊢
  obtain ⟨L, hL⟩ : ∃ L, 64 * N = L := ⟨_, rfl⟩
  rw [hL] at hcs hcap ⊢
  have HLN := Lib.hid hL
  have hord : Hid (w.heap.size = Hb ∧ Hb < g) := ⟨hw2.out.2.symm, by have := hw2.out; omega⟩
  have HB3 : Hid (Below w.heap.size w w3) := HB2.out.trans (hb3.mono HB2.out.size)
  have HM3 := Lib.hid hM
  have HH3 : Hid (Blk w3 Hb 118 (uvals (sl sInit))) := hH2.out.below hb3 hH2.out.lt
  have HMC : Hid (∀ i, i < L → cs[i]? = some (.int .u8 (M.getD i 0))) := fun i hi => by
    rw [take_get hcs hi, ivals_get (by have := HML.out; have := HLN.out; omega)]
  clear ho hg hM hcs hL hb3 HB2 hH2
  have hL2 : L ≤ 1048704 := by have := HLN.out; omega
  go_wp2_with fail
  go_loopw [5] (fun tt wr => ∃ t k : Nat, k ≤ N ∧ tt = .int .i64 (t : Int) ∧ Hid (t = 64 * k) ∧ Hid (Blk wr Hb 118 (uvals (sl (sBlocks M k)))) ∧ Hid (Blk wr g 5 cs) ∧ Hid (Below w.heap.size w wr)) (fun tt _ => L - (intOf tt).toNat)
  case atStart => exact ⟨0, 0, by omega, rfl, rfl, HH3, HM3, HB3⟩
  case round =>
    clear HB3 HM3 HH3
    obtain ⟨t, k, hkN, rfl, HT, HH, HMw, HBw⟩ := hrel
    by_cases hlt : k < N
    · have bt : (t : Int) < (L : Int) := by have := HT.out; have := HLN.out; omega
      have htL : t + 64 ≤ L := by have := HT.out; have := HLN.out; omega
      go_wp2_with (refine wpList_alloc_arr rfl 101 rfl _ j0 hj hy0 ?_; intro w4 Wb HWb hWb hb4 hs4; replace hWb := Lib.hid hWb)
      have hordW : Hid (Hb < Wb ∧ g < Wb ∧ w.heap.size ≤ Wb) := by
        have h1 := HWb.out; have h2 := HH.out.lt; have h3 := HMw.out.lt; have h4 := HBw.out.size
        exact ⟨by omega, by omega, by omega⟩
      have HH4 : Hid (Blk w4 Hb 118 (uvals (sl (sBlocks M k)))) := HH.out.below hb4 HH.out.lt
      have HM4 : Hid (Blk w4 g 5 cs) := HMw.out.below hb4 HMw.out.lt
      have HB4 : Hid (Below w.heap.size w w4) := HBw.out.trans (hb4.mono HBw.out.size)
      clear HH HMw HBw hb4 HWb hs4
      go_loopw [7] (fun ii wr => ∃ i : Nat, i ≤ 16 ∧ ii = .int .i64 (i : Int) ∧ Hid (Blk wr Wb 101 (uvals (wLow M t i))) ∧ Hid (Below Wb w4 wr)) (fun ii _ => 16 - (intOf ii).toNat)
      case atStart => exact ⟨0, by omega, rfl, hWb, Below.refl _ _⟩
      case round =>
        clear hWb
        obtain ⟨i, hi16, rfl, HW, HBi⟩ := hrel
        by_cases hi : i < 16
        · obtain ⟨q, hq⟩ : ∃ q : Nat, (4 : Int) * (i : Int) = (q : Int) := ⟨4 * i, by omega⟩
          obtain ⟨o, ho⟩ : ∃ o : Nat, (t : Int) + (q : Int) = (o : Int) := ⟨t + q, by omega⟩
          have hoL : o + 4 ≤ L := by omega
          have bo : (o : Int) ≤ (L : Int) := by omega
          have hco : ¬ cap = o := by omega
          have HO : Hid (o = t + 4 * i) := by show _ = _; omega
          have wq : IntKind.i64.wrap (q : Int) = (q : Int) := IntWalk.i64_in _ (by omega)
          have wo : IntKind.i64.wrap (o : Int) = (o : Int) := IntWalk.i64_in _ (by omega)
          have bi : (i : Int) < 80 := by omega
          have HMi : Hid (Blk wr g 5 cs) := HM4.out.below HBi.out hordW.out.2.1
          --{low
          obtain ⟨y, HY⟩ : ∃ y, Hid (y = beW (M.getD (t + 4 * i) 0) (M.getD (t + 4 * i + 1) 0) (M.getD (t + 4 * i + 2) 0) (M.getD (t + 4 * i + 3) 0)) := ⟨_, rfl⟩
          have MU : Hid (∀ wx n' c', 4 ≤ n' → Below Wb wr wx → Calls Tryd.prog 83 #[.agg #[], .slice (some ⟨g, o, none⟩) n' c'] wx fun E w' => E = .returned (.int .u32 y) ∧ Below wx.heap.size wx w') := by
            intro wx n' c' hn' hbx
            have hb : Blk wx g 5 cs := HMi.out.below hbx hordW.out.2.1
            have hh := beUint32_any g o n' c' (M.getD o 0) (M.getD (o + 1) 0) (M.getD (o + 2) 0) (M.getD (o + 3) 0) wx hn' (by rw [hb.cell]; exact HMC.out _ (by omega)) (by rw [hb.cell]; exact HMC.out _ (by omega)) (by rw [hb.cell]; exact HMC.out _ (by omega)) (by rw [hb.cell]; exact HMC.out _ (by omega))
            rw [HY.out, ← HO.out]
            exact hh
          obtain ⟨old, ci⟩ : ∃ v, wr.cell? ⟨Wb, i, none⟩ = some v := ⟨_, (HW.out.cell _).trans (uvals_get (by rw [wLow_length]; omega))⟩
          have fi : wr.frozen? ⟨Wb, i, none⟩ = false := HW.out.frozen _
          have hWlt : Wb < wr.heap.size := HW.out.lt
          go_wp2_with fail
          go_region_with (go_at_call 83; refine (MU.out _ _ _ (by omega) ((Below.refl _ wr).drew)).mono ?_; rintro E w7 ⟨rfl, hb7⟩; have BB : Hid (Below wr.heap.size wr w7) := ((Below.refl _ wr).drew).trans hb7; have ci7 : w7.cell? ⟨Wb, i, none⟩ = some old := (BB.out.cell (p := ⟨Wb, i, none⟩) hWlt).trans ci; have fi7 : w7.frozen? ⟨Wb, i, none⟩ = false := (BB.out.frozen (p := ⟨Wb, i, none⟩) hWlt).trans fi)
          all_goals
            go_wp2_with fail
            go_roundw
            case rel =>
              refine ⟨i + 1, by omega, by go_num, ?_, ?_⟩
              · show Blk _ _ _ _
                rw [wLow, ← HY.out, ← uvals_set]
                exact (HW.out.below BB.out HW.out.lt).set_ _ _
              · exact (HBi.out.trans (BB.out.mono (Nat.le_of_lt hWlt))).setCell (p := ⟨Wb, i, none⟩) (Nat.le_refl _) _
            case measure => simp [intOf]; omega
          --}low
        · have hi0 : ¬ (i : Int) < 16 := by omega
          have hie : i = 16 := by omega
          rw [hie] at HW
          clear hi hi16 hie
          obtain ⟨l0, Hl0⟩ : ∃ l0, Hid (l0 = wLow M t 16) := ⟨_, rfl⟩
          have Hl80 : Hid (l0.length = 80) := by show _ = _; rw [Hl0.out, wLow_length]
          rw [← Hl0.out] at HW
          go_wp2_with fail
          go_loopw [8] (fun ii wr => ∃ i kk : Nat, Hid (i = 16 + kk) ∧ 16 ≤ i ∧ i ≤ 80 ∧ ii = .int .i64 (i : Int) ∧ Hid (Blk wr Wb 101 (uvals (wHigh l0 kk))) ∧ Hid (Below Wb w4 wr)) (fun ii _ => 80 - (intOf ii).toNat)
          case atStart => exact ⟨16, 0, rfl, by omega, by omega, rfl, HW, HBi⟩
          case round =>
            clear HW HBi
            obtain ⟨i, kk, HIK, hi16, hi80, rfl, HW, HBi⟩ := hrel
            by_cases hi : i < 80
            · obtain ⟨p3, h3⟩ : ∃ p : Nat, (i : Int) - 3 = (p : Int) := ⟨i - 3, by omega⟩
              obtain ⟨p8, h8⟩ : ∃ p : Nat, (i : Int) - 8 = (p : Int) := ⟨i - 8, by omega⟩
              obtain ⟨p14, h14⟩ : ∃ p : Nat, (i : Int) - 14 = (p : Int) := ⟨i - 14, by omega⟩
              obtain ⟨p16, h16⟩ : ∃ p : Nat, (i : Int) - 16 = (p : Int) := ⟨i - 16, by omega⟩
              have w3' : IntKind.i64.wrap (p3 : Int) = (p3 : Int) := IntWalk.i64_in _ (by omega)
              have w8' : IntKind.i64.wrap (p8 : Int) = (p8 : Int) := IntWalk.i64_in _ (by omega)
              have w14' : IntKind.i64.wrap (p14 : Int) = (p14 : Int) := IntWalk.i64_in _ (by omega)
              have w16' : IntKind.i64.wrap (p16 : Int) = (p16 : Int) := IntWalk.i64_in _ (by omega)
              have b3 : (p3 : Int) < 80 := by omega
              have b8 : (p8 : Int) < 80 := by omega
              have b14 : (p14 : Int) < 80 := by omega
              have b16 : (p16 : Int) < 80 := by omega
              have bi : (i : Int) < 80 := by omega
              have HP : Hid (p3 = i - 3 ∧ p8 = i - 8 ∧ p14 = i - 14 ∧ p16 = i - 16) := ⟨by omega, by omega, by omega, by omega⟩
              have hWl : (wHigh l0 kk).length = 80 := wHigh_length l0 Hl80.out kk
              --{high
              obtain ⟨x3, X3⟩ : ∃ x, Hid (x = (wHigh l0 kk).getD p3 0) := ⟨_, rfl⟩
              obtain ⟨x8, X8⟩ : ∃ x, Hid (x = (wHigh l0 kk).getD p8 0) := ⟨_, rfl⟩
              obtain ⟨x14, X14⟩ : ∃ x, Hid (x = (wHigh l0 kk).getD p14 0) := ⟨_, rfl⟩
              obtain ⟨x16, X16⟩ : ∃ x, Hid (x = (wHigh l0 kk).getD p16 0) := ⟨_, rfl⟩
              have c3 : wr.cell? ⟨Wb, p3, none⟩ = some (.int .u32 x3) := by rw [HW.out.cell, uvals_get (by omega), X3.out]
              have c8 : wr.cell? ⟨Wb, p8, none⟩ = some (.int .u32 x8) := by rw [HW.out.cell, uvals_get (by omega), X8.out]
              have c14 : wr.cell? ⟨Wb, p14, none⟩ = some (.int .u32 x14) := by rw [HW.out.cell, uvals_get (by omega), X14.out]
              have c16 : wr.cell? ⟨Wb, p16, none⟩ = some (.int .u32 x16) := by rw [HW.out.cell, uvals_get (by omega), X16.out]
              obtain ⟨old, ci⟩ : ∃ v, wr.cell? ⟨Wb, i, none⟩ = some v := ⟨_, (HW.out.cell _).trans (uvals_get (by omega))⟩
              have fi : wr.frozen? ⟨Wb, i, none⟩ = false := HW.out.frozen _
              clear hWl
              go_wp2_with fail
              go_still_tail 22, (by kernel_rfl)
              still_call (rot1 _ _)
              repeat still_step
              refine wpStill_nil ?_
              go_wp2_with fail
              go_roundw
              case rel =>
                refine ⟨i + 1, kk + 1, by have := HIK.out; show _ = _; omega, by omega, by omega, by go_num, ?_, ?_⟩
                · show Blk _ _ _ _
                  rw [wHigh, ← HIK.out, wNext, ← HP.out.1, ← HP.out.2.1, ← HP.out.2.2.1, ← HP.out.2.2.2, ← X3.out, ← X8.out, ← X14.out, ← X16.out, ← uvals_set]
                  exact (HW.out.drewN 1).set_ _ _
                · exact (below_drewN HBi.out 1).setCell (p := ⟨Wb, i, none⟩) (Nat.le_refl _) _
              case measure => simp [intOf]; omega
              --}high
            · have hi0 : ¬ (i : Int) < 80 := by omega
              have hie : kk = 64 := by have := HIK.out; omega
              rw [hie] at HW
              clear hi hi80 hi16 hie HIK
              obtain ⟨W0, HW0⟩ : ∃ W0, Hid (W0 = sched M t) := ⟨_, rfl⟩
              have HW8 : Hid (W0.length = 80) := by show _ = _; rw [HW0.out, sched, ← Hl0.out, wHigh_length l0 Hl80.out]
              have hW1 : Blk wr Wb 101 (uvals W0) := by rw [HW0.out, sched, ← Hl0.out]; exact HW.out
              have HW1 := Lib.hid hW1
              have HH5 : Hid (Blk wr Hb 118 (uvals (sl (sBlocks M k)))) := HH4.out.below HBi.out hordW.out.1
              have HM5 : Hid (Blk wr g 5 cs) := HM4.out.below HBi.out hordW.out.2.1
              have HB5 : Hid (Below w.heap.size w wr) := HB4.out.trans (HBi.out.mono hordW.out.2.2)
              obtain ⟨s, HS⟩ : ∃ s, Hid (s = sBlocks M k) := ⟨_, rfl⟩
              rw [← HS.out] at HH5
              obtain ⟨h0, h1, h2, h3, h4⟩ := s
              have c0 : wr.cell? ⟨Hb, 0, none⟩ = some (.int .u32 h0) := by rw [HH5.out.cell]; rfl
              have c1 : wr.cell? ⟨Hb, 1, none⟩ = some (.int .u32 h1) := by rw [HH5.out.cell]; rfl
              have c2 : wr.cell? ⟨Hb, 2, none⟩ = some (.int .u32 h2) := by rw [HH5.out.cell]; rfl
              have c3 : wr.cell? ⟨Hb, 3, none⟩ = some (.int .u32 h3) := by rw [HH5.out.cell]; rfl
              have c4 : wr.cell? ⟨Hb, 4, none⟩ = some (.int .u32 h4) := by rw [HH5.out.cell]; rfl
              clear hW1 HW HH4 HM4 HB4 HBi Hl0 Hl80
              go_wp2_with fail
              go_quiet (fail)
              go_wp2_with fail
              go_loopw [9, 10, 11, 12, 13, 14] (fun va vb vc vd ve ii w6 => ∃ (i q : Nat) (a b c d e : Int), i ≤ 80 ∧ va = .int .u32 a ∧ vb = .int .u32 b ∧ vc = .int .u32 c ∧ vd = .int .u32 d ∧ ve = .int .u32 e ∧ ii = .int .i64 (i : Int) ∧ Hid ((a, b, c, d, e) = sRs W0 (h0, h1, h2, h3, h4) i) ∧ w6 = wr.drewN q) (fun _ _ _ _ _ ii _ => 80 - (intOf ii).toNat)
              case atStart => exact ⟨0, _, _, _, _, _, _, by omega, rfl, rfl, rfl, rfl, rfl, rfl, rfl, rfl⟩
              case round =>
                obtain ⟨i, q, a, b, c, d, e, hi80, rfl, rfl, rfl, rfl, rfl, rfl, HR5, rfl⟩ := hrel
                by_cases hi : i < 80
                · have bi : (i : Int) < 80 := by omega
                  obtain ⟨x, HX⟩ : ∃ x, Hid (x = W0.getD i 0) := ⟨_, rfl⟩
                  have ci : wr.cell? ⟨Wb, i, none⟩ = some (.int .u32 x) := by rw [HW1.out.cell, uvals_get (by rw [HW8.out]; exact hi), HX.out]
                  have H4 : (i < 20) ∨ (20 ≤ i ∧ i < 40) ∨ (40 ≤ i ∧ i < 60) ∨ 60 ≤ i := by omega
                  rcases H4 with g1 | ⟨g1, g2⟩ | ⟨g1, g2⟩ | g1
                  · have d1 : (i : Int) < 20 := by omega
                    --{c1
                    go_wp2_with fail
                    go_quiet (exact (rotZ _ _ (by decide) _).mono fun _ _ h => ⟨h.1, _, h.2⟩)
                    go_wp2_with fail
                    go_roundw
                    case rel =>
                      refine ⟨i + 1, _, _, _, _, _, _, by omega, rfl, rfl, rfl, rfl, rfl, by go_num, ?_, rfl⟩
                      show _ = sR i (W0.getD i 0) (sRs W0 _ i)
                      rw [← HR5.out, ← HX.out, sR, sF, sK]
                      simp only [if_pos g1]
                      refine Prod.ext ?_ rfl
                      simp only [IntKind.wrap_u32]
                      omega
                    case measure => simp [intOf]; omega
                    --}c1
                  · have d1 : ¬ (i : Int) < 20 := by omega
                    have d2 : (i : Int) < 40 := by omega
                    --{c2
                    go_wp2_with fail
                    go_quiet (exact (rotZ _ _ (by decide) _).mono fun _ _ h => ⟨h.1, _, h.2⟩)
                    go_wp2_with fail
                    go_roundw
                    case rel =>
                      refine ⟨i + 1, _, _, _, _, _, _, by omega, rfl, rfl, rfl, rfl, rfl, by go_num, ?_, rfl⟩
                      show _ = sR i (W0.getD i 0) (sRs W0 _ i)
                      rw [← HR5.out, ← HX.out, sR, sF, sK]
                      have n20 : ¬ i < 20 := by omega
                      simp only [if_neg n20, if_pos g2]
                      refine Prod.ext ?_ rfl
                      simp only [IntKind.wrap_u32]
                      omega
                    case measure => simp [intOf]; omega
                    --}c2
                  · have d1 : ¬ (i : Int) < 20 := by omega
                    have d2 : ¬ (i : Int) < 40 := by omega
                    have d3 : (i : Int) < 60 := by omega
                    --{c3
                    go_wp2_with fail
                    go_quiet (exact (rotZ _ _ (by decide) _).mono fun _ _ h => ⟨h.1, _, h.2⟩)
                    go_wp2_with fail
                    go_roundw
                    case rel =>
                      refine ⟨i + 1, _, _, _, _, _, _, by omega, rfl, rfl, rfl, rfl, rfl, by go_num, ?_, rfl⟩
                      show _ = sR i (W0.getD i 0) (sRs W0 _ i)
                      rw [← HR5.out, ← HX.out, sR, sF, sK]
                      have n20 : ¬ i < 20 := by omega
                      have n40 : ¬ i < 40 := by omega
                      simp only [if_neg n20, if_neg n40, if_pos g2]
                      refine Prod.ext ?_ rfl
                      simp only [IntKind.wrap_u32]
                      omega
                    case measure => simp [intOf]; omega
                    --}c3
                  · have d1 : ¬ (i : Int) < 20 := by omega
                    have d2 : ¬ (i : Int) < 40 := by omega
                    have d3 : ¬ (i : Int) < 60 := by omega
                    --{c4
                    go_wp2_with fail
                    go_quiet (exact (rotZ _ _ (by decide) _).mono fun _ _ h => ⟨h.1, _, h.2⟩)
                    go_wp2_with fail
                    go_roundw
                    case rel =>
                      refine ⟨i + 1, _, _, _, _, _, _, by omega, rfl, rfl, rfl, rfl, rfl, by go_num, ?_, rfl⟩
                      show _ = sR i (W0.getD i 0) (sRs W0 _ i)
                      rw [← HR5.out, ← HX.out, sR, sF, sK]
                      have n20 : ¬ i < 20 := by omega
                      have n40 : ¬ i < 40 := by omega
                      have n60 : ¬ i < 60 := by omega
                      simp only [if_neg n20, if_neg n40, if_neg n60]
                      refine Prod.ext ?_ rfl
                      simp only [IntKind.wrap_u32]
                      omega
                    case measure => simp [intOf]; omega
                    --}c4
                · have hi0 : ¬ (i : Int) < 80 := by omega
                  have hie : i = 80 := by omega
                  have hR : (a, b, c, d, e) = sRs W0 (h0, h1, h2, h3, h4) 80 := by rw [HR5.out, hie]
                  have HR := Lib.hid hR
                  obtain ⟨t2, ht2⟩ : ∃ t2 : Nat, (t : Int) + 64 = (t2 : Int) := ⟨t + 64, by omega⟩
                  have wt2 : IntKind.i64.wrap (t2 : Int) = (t2 : Int) := IntWalk.i64_in _ (by omega)
                  have f0 : wr.frozen? ⟨Hb, 0, none⟩ = false := HH5.out.frozen _
                  have f1 : wr.frozen? ⟨Hb, 1, none⟩ = false := HH5.out.frozen _
                  have f2 : wr.frozen? ⟨Hb, 2, none⟩ = false := HH5.out.frozen _
                  have f3 : wr.frozen? ⟨Hb, 3, none⟩ = false := HH5.out.frozen _
                  have f4 : wr.frozen? ⟨Hb, 4, none⟩ = false := HH5.out.frozen _
                  clear hi hi80 hie hR HR5
                  go_wp2_with fail
                  go_roundw
                  case rel =>
                    have hne : ∀ i, g ≠ (⟨Hb, i, none⟩ : Addr).block := fun i => by have := hord.out; simp only; omega
                    have hle : ∀ i, w.heap.size ≤ (⟨Hb, i, none⟩ : Addr).block := fun i => by have := hord.out; simp only; omega
                    refine ⟨t2, k + 1, by omega, rfl, ?_, ?_, ?_, ?_⟩
                    · have := HT.out; show _ = _; omega
                    · show Blk _ _ _ _
                      rw [sBlocks, ← HS.out, ← HT.out, sComp, ← HW0.out, ← HR.out]
                      simp only [sAdd, sl, IntKind.wrap_u32]
                      exact (((((HH5.out.drewN q).set_ 0 _).set_ 1 _).set_ 2 _).set_ 3 _).set_ 4 _
                    · exact (((((HM5.out.drewN q).far (hne 0) _).far (hne 1) _).far (hne 2) _).far (hne 3) _).far (hne 4) _
                    · exact (((((below_drewN HB5.out q).setCell (hle 0) _).setCell (hle 1) _).setCell (hle 2) _).setCell (hle 3) _).setCell (hle 4) _
                  case measure => simp [intOf]; omega
    · have hk : k = N := by omega
      have hnt : ¬ (t : Int) < (L : Int) := by have := HT.out; have := HLN.out; omega
      rw [hk] at HH
      obtain ⟨s, HS⟩ : ∃ s, Hid (s = sBlocks M N) := ⟨_, rfl⟩
      rw [← HS.out] at HH
      obtain ⟨h0, h1, h2, h3, h4⟩ := s
      have c0 : wr.cell? ⟨Hb, 0, none⟩ = some (.int .u32 h0) := by rw [HH.out.cell]; rfl
      have c1 : wr.cell? ⟨Hb, 1, none⟩ = some (.int .u32 h1) := by rw [HH.out.cell]; rfl
      have c2 : wr.cell? ⟨Hb, 2, none⟩ = some (.int .u32 h2) := by rw [HH.out.cell]; rfl
      have c3 : wr.cell? ⟨Hb, 3, none⟩ = some (.int .u32 h3) := by rw [HH.out.cell]; rfl
      have c4 : wr.cell? ⟨Hb, 4, none⟩ = some (.int .u32 h4) := by rw [HH.out.cell]; rfl
      have HO0 : Hid (wr.ownsRow w.heap.size 5 1 (.slice none 0 0) (4 * 0) (ivals (outBytes ((sl (h0, h1, h2, h3, h4)).take 0)))) := World.ownsRow_nil _ _ _ _
      clear hlt hkN hk HT HMw
      go_wp2_with fail
      go_loopw [17, 164] (fun v jj w6 => ∃ j : Nat, j ≤ 5 ∧ jj = .int .i64 (j : Int) ∧ Hid (w6.ownsRow w.heap.size 5 1 v (4 * j) (ivals (outBytes ((sl (h0, h1, h2, h3, h4)).take j)))) ∧ Hid (Below w.heap.size w w6)) (fun _ jj _ => 5 - (intOf jj).toNat)
      case atStart => exact ⟨0, by omega, rfl, HO0, HBw⟩
      case round =>
        clear HO0 HBw
        obtain ⟨j, hj5, rfl, HO, HBj⟩ := hrel
        by_cases hj : j < 5
        · obtain ⟨x, HX⟩ : ∃ x, Hid (x = (sl (h0, h1, h2, h3, h4)).getD j 0) := ⟨_, rfl⟩
          have ix : ∀ w, (Instr.index 118 (.agg #[.int .u32 h0, .int .u32 h1, .int .u32 h2, .int .u32 h3, .int .u32 h4]) (.int .i64 (j : Int))).run Tryd.prog w = .ok (.int .u32 x) w := fun w => by rw [HX.out]; exact index118 h0 h1 h2 h3 h4 j hj w
          have bj : (j : Int) < 5 := by omega
          go_wp2_with fail
          refine (beAppend32_any w.heap.size (4 * j) _ _ x wr HO.out HBj.out.size (by omega)).mono ?_
          rintro E w7 ⟨v, rfl, ho, hb⟩
          rw [← ivals_append, HX.out, ← outBytes_succ _ _ hj] at ho
          replace ho := Lib.hid ho
          go_wp2_with fail
          go_roundw
          case rel => exact ⟨j + 1, by omega, by go_num, ho, HBj.out.trans hb⟩
          case measure => simp [intOf]; omega
        · have hje : j = 5 := by omega
          subst hje
          go_wp2_with fail
          go_ret
          refine ⟨_, rfl, ?_, HBj.out⟩
          have e : sha1 l = outBytes ((sl (h0, h1, h2, h3, h4)).take 5) := by
            rw [sha1, HL.out, ← HM.out, ← HN.out, ← HS.out]
            rfl
          rw [e]
          exact HO.out
end Go.Proofs.YtlnifplomlnoiaaDoor
