/- spec.expanded: the key's words, in ints. -/
import Derived.Test.YtlnifplomlnoiaaDoorSpecTab
import Derived.Test.YtlnifplomlnoiaaDoorBits64
import Derived.StillTailTactics
import Derived.BigFrame
namespace Go.Proofs.YtlnifplomlnoiaaDoor
open Go.RowKit

theorem info55 : (Tryd.prog.info? 55).map (fun i => (i.zero, i.size, i.bytes)) = some (some (.agg (nvals .i64 (zeros 64)).toArray), 64, 512) := by kernel_rfl
theorem info81 : (Tryd.prog.info? 81).map (fun i => (i.zero, i.size, i.bytes)) = some (some (.agg (nvals .i64 (zeros 128)).toArray), 128, 1024) := by kernel_rfl
theorem underlying55 : Tryd.prog.underlying 55 = some (.array 64 3) := by kernel_rfl
theorem built81 : Tryd.prog.built 81 [] = some (nvals .i64 (zeros 128)).toArray := by kernel_rfl
theorem built55 : Tryd.prog.built 55 [] = some (nvals .i64 (zeros 64)).toArray := by kernel_rfl

def laidUp (key : List Nat) (i : Nat) : List Nat := key.take i ++ List.replicate (128 - i) 0
theorem laidUp_zero (key : List Nat) : laidUp key 0 = zeros 128 := by simp [laidUp, zeros]
theorem laidUp_all (key : List Nat) : laidUp key key.length = padded0 key := by simp [laidUp, padded0]
theorem laidUp_length {key : List Nat} {i : Nat} (h : i ≤ key.length) (h' : key.length ≤ 128) : (laidUp key i).length = 128 := by simp [laidUp]; omega
theorem laidUp_set {key : List Nat} {i : Nat} (h : i < key.length) (h' : key.length ≤ 128) : (laidUp key i).set i (key.getD i 0) = laidUp key (i + 1) := by
  have e : 128 - i = (128 - (i + 1)) + 1 := by omega
  unfold laidUp
  rw [e, List.replicate_succ, List.set_append_right _ _ (by simp; omega)]
  rw [show i - (List.take i key).length = 0 by simp; omega, List.set_cons_zero, ← List.take_append_getElem h, List.append_assoc, List.getD_eq_getElem?_getD, List.getElem?_eq_getElem h]
  rfl

set_option maxRecDepth 1000000 in
set_option maxHeartbeats 4000000 in
theorem specExpanded_any (A : Option Addr) (n c t1 : Nat) (key : List Nat) (w : World) (hr : Rd w w.heap.size A n (nvals .u8 key)) (hkb : ∀ x ∈ key, x ≤ 255) (hn0 : 1 ≤ n) (hn : n ≤ 128) (ht0 : 1 ≤ t1) (ht1 : t1 ≤ 1024) :
    Calls Tryd.prog 32 #[.slice A n c, .int .i64 (t1 : Int)] w fun E w' => E = .returned (.agg (nvals .i64 (expanded piT key t1)).toArray) ∧ Below w.heap.size w w' := by
  obtain ⟨i0, hi, hz0, hz1, hz2⟩ := info_parts info55
  obtain ⟨j0, hj, hy0, hy1, hy2⟩ := info_parts info81
  have b81 := fun w => run_build (P := Tryd.prog) w 81 #[] _ built81
  have b55 := fun w => run_build (P := Tryd.prog) w 55 #[] _ built55
  have hl : key.length = n := by rw [← nvals_length .u8]; exact hr.1
  have HL := Lib.hid hl
  clear hl
  obtain ⟨g, o, rfl, hg, hcell⟩ := hr.at_ (k := 0) (by omega)
  have HC := Lib.hid hcell
  have HKB := Lib.hid hkb
  clear hcell hkb
  obtain ⟨t8, ht8⟩ : ∃ t8, (t1 + 7) / 8 = t8 := ⟨_, rfl⟩
  have e1 : IntKind.i64.wrap (Int.tdiv ((t1 : Int) + 7) 8) = (t8 : Int) := by
    rw [show Int.tdiv ((t1 : Int) + 7) 8 = (t8 : Int) by rw [Int.tdiv_eq_ediv_of_nonneg (by omega)]; omega]
    exact IntWalk.i64_in _ (by omega)
  have h80 : 1 ≤ t8 := by omega
  have h81 : t8 ≤ 128 := by omega
  have HT8 := Lib.hid ht8
  go_enter Tryd.func32, Tryd.ntmps32
  go_wp2_with (refine wpList_alloc_arr rfl 55 rfl _ i0 hi hz0 ?_; intro w1 B0 HB0 hB0 hb1 hs1; replace hB0 := Lib.hid hB0)
  refine (numbers_any w1).mono ?_
  rintro E w2 ⟨gp, rfl, hgp, hBp, hb2⟩
  replace hBp := Lib.hid hBp
  go_wp2_with (first | (refine wpList_build0 rfl 81 rfl _ (b81 _) ?_) | (refine wpList_alloc_arr rfl 81 rfl _ j0 hj hy0 ?_; intro w3 B1 HB1 hB1 hb3 hs3) | (refine wpList_store_blk rfl 81 (.tmp 6) (.tmp 15) rfl B1 81 _ (nvals .i64 (zeros 128)) rfl rfl hB1 rfl (by rw [hj]; simp [hy1, nvals_length, zeros]) nvals_one ?_; intro w4 hB4 hg4 hs4; replace hB4 := Lib.hid hB4))
  have hb14 : Below w.heap.size w w4 := by
    have h1 := hb1.trans (hb2.mono hb1.size)
    have h2 := h1.trans (hb3.mono h1.size)
    exact h2.trans (below_of_grown hg4 (by have := HB1.out; have := h1.size; omega) h2.size)
  have hb24 : Hid (Below B1 w4 w4) := Below.refl _ _
  have hB1w : Hid (B1 < w4.heap.size) := hB4.out.lt
  have hP4 : Hid (Blk w4 gp 3 (nvals .i64 piNats)) := by
    have h1 := hBp.out.below hb3 hBp.out.lt
    exact h1.grown hg4 (by have := HB1.out; have := hBp.out.lt; simp; omega)
  have h04 : Hid (Blk w4 B0 55 (nvals .i64 (zeros 64))) := by
    have h1 := hB0.out.below hb2 hB0.out.lt
    have h2 := h1.below hb3 h1.lt
    exact h2.grown hg4 (by have := HB1.out; have := h1.lt; simp; omega)
  have hord : Hid (B0 < B1 ∧ gp < B1 ∧ w.heap.size ≤ B0) := by
    have h1 := hB0.out.below hb2 hB0.out.lt
    have a1 := h1.lt
    have a2 := hBp.out.lt
    have a3 := HB1.out
    have a4 := HB0.out
    exact ⟨by omega, by omega, by omega⟩
  have HW4 := Lib.hid hb14
  clear hB1 hB0 hBp hb1 hb2 hb3 hg4 hs1 hs3 hs4 hgp HB1 hb14
  go_loopw [18] (fun ii wr => ∃ i : Nat, i ≤ n ∧ ii = .int .i64 (i : Int) ∧ Hid (Blk wr B1 81 (nvals .i64 (laidUp key i))) ∧ Hid (Below B1 w4 wr)) (fun ii _ => n - (intOf ii).toNat)
  case atStart => exact ⟨0, by omega, rfl, by rw [laidUp_zero]; exact hB4, Below.refl _ _⟩
  case round =>
    obtain ⟨i, hin, rfl, HBl, HBe⟩ := hrel
    by_cases hlt : i < n
    · obtain ⟨x, hx⟩ : ∃ x, key.getD i 0 = x := ⟨_, rfl⟩
      have cx : wr.cell? ⟨g, o + i, none⟩ = some (.int .u8 (x : Int)) := by
        have h1 : g < B1 := by have := hord.out; omega
        rw [HBe.out.cell h1, HW4.out.cell hg, HC.out i _ (nvals_getD (by rw [HL.out]; exact hlt)), hx]
      obtain ⟨old, ci⟩ : ∃ v, wr.cell? ⟨B1, i, none⟩ = some v := ⟨_, (HBl.out.cell _).trans (nvals_getD (by rw [laidUp_length (by rw [HL.out]; exact hin) (by rw [HL.out]; exact hn)]; omega))⟩
      have fi : wr.frozen? ⟨B1, i, none⟩ = false := HBl.out.frozen _
      have hx5 : x ≤ 255 := by
        rw [← hx, List.getD_eq_getElem?_getD, List.getElem?_eq_getElem (by rw [HL.out]; exact hlt)]
        exact HKB.out _ (List.getElem_mem _)
      have bi : (i : Int) < (n : Int) := by omega
      have bi8 : (i : Int) < 128 := by omega
      have wx : IntKind.i64.wrap (x : Int) = (x : Int) := IntWalk.i64_in _ (by omega)
      have HX := Lib.hid hx
      clear hx
      go_wp2_with fail
      go_roundw
      case rel =>
        refine ⟨i + 1, by omega, by go_num, ?_, HBe.out.setCell (p := ⟨B1, _, none⟩) (Nat.le_refl _) _⟩
        show Blk _ _ _ _
        rw [← laidUp_set (by rw [HL.out]; exact hlt) (by rw [HL.out]; exact hn), HX.out, ← nvals_set]
        exact HBl.out.set_ _ _
      case measure => simp [intOf]; omega
    · have hi128 : ¬ (i : Int) < (n : Int) := by omega
      have HIn : Hid (i = n) := by show _ = _; omega
      clear hlt hin
      have HB : Hid (Byt (padded0 key)) := byt_padded (by rw [HL.out]; exact hn) HKB.out
      have HS1 : Hid (Blk wr B1 81 (nvals .i64 (padded0 key))) := by
        have h := HBl.out
        rw [HIn.out] at h
        show Blk _ _ _ _
        have e := laidUp_all key
        rw [HL.out] at e
        rw [← e]
        exact h
      go_wp2_with fail
      go_loopw [9] (fun ii wr => ∃ (k i : Nat) (l : List Nat), ii = .int .i64 (i : Int) ∧ Hid (i = n + k) ∧ n ≤ i ∧ i ≤ 128 ∧ Hid (l = fill1 piT n (padded0 key) k) ∧ Hid (Byt l) ∧ Hid (Blk wr B1 81 (nvals .i64 l)) ∧ Hid (Below B1 w4 wr)) (fun ii _ => 128 - (intOf ii).toNat)
      case atStart => exact ⟨0, n, _, rfl, rfl, Nat.le_refl _, hn, rfl, HB, HS1, HBe⟩
      case round =>
        clear HBl HBe HS1 HB hi128
        obtain ⟨k, i, l, rfl, HI, hni, hi8, HLL, HBy, HBl, HBe⟩ := hrel
        have HPw : Hid (Blk wr gp 3 (nvals .i64 piNats)) := hP4.out.below HBe.out hord.out.2.1
        by_cases hlt : i < 128
        · obtain ⟨a, hia⟩ : ∃ a : Nat, (i : Int) - 1 = (a : Int) := ⟨i - 1, by omega⟩
          have hia' : i - 1 = a := by omega
          obtain ⟨q, hq⟩ : ∃ q : Nat, (i : Int) - (n : Int) = (q : Int) := ⟨i - n, by omega⟩
          have hq7 : q ≤ 127 := by omega
          have wa : IntKind.i64.wrap (a : Int) = (a : Int) := IntWalk.i64_in _ (by omega)
          have wq : IntKind.i64.wrap (q : Int) = (q : Int) := IntWalk.i64_in _ (by omega)
          have bq : (q : Int) < 128 := by omega
          have ba : (a : Int) < 128 := by omega
          have bi : (i : Int) < 128 := by omega
          obtain ⟨x, hx⟩ : ∃ x, l.getD a 0 = x := ⟨_, rfl⟩
          obtain ⟨y, hy⟩ : ∃ y, l.getD q 0 = y := ⟨_, rfl⟩
          have hx5 : x ≤ 255 := by rw [← hx]; exact HBy.out.2 _
          have hy5 : y ≤ 255 := by rw [← hy]; exact HBy.out.2 _
          obtain ⟨z, hz⟩ : ∃ z : Nat, (x : Int) + (y : Int) = (z : Int) := ⟨x + y, by omega⟩
          have wz : IntKind.i64.wrap (z : Int) = (z : Int) := IntWalk.i64_in _ (by omega)
          obtain ⟨s, hsz, hs⟩ : ∃ s : Nat, Int.tmod (z : Int) 256 = (s : Int) ∧ s = z % 256 := ⟨z % 256, by rw [Int.tmod_eq_emod_of_nonneg (by omega)]; omega, rfl⟩
          have wsz : IntKind.i64.wrap (s : Int) = (s : Int) := IntWalk.i64_in _ (by omega)
          have bs : (s : Int) < 256 := by omega
          have HS : Hid (s = (x + y) % 256) := by show _ = _; omega
          have hs6 : s < 256 := by omega
          clear hs
          have ca : wr.cell? ⟨B1, a, none⟩ = some (.int .i64 (x : Int)) := by
            rw [HBl.out.cell, nvals_getD (by rw [HBy.out.1]; omega), hx]
          have cq : wr.cell? ⟨B1, q, none⟩ = some (.int .i64 (y : Int)) := by
            rw [HBl.out.cell, nvals_getD (by rw [HBy.out.1]; omega), hy]
          have cs : wr.cell? ⟨gp, s, none⟩ = some (.int .i64 (piT s : Int)) := by
            rw [HPw.out.cell, nvals_getD (by simp [piNats]; omega), piNats_get hs6]
          obtain ⟨old, ci⟩ : ∃ v, wr.cell? ⟨B1, i, none⟩ = some v := ⟨_, (HBl.out.cell _).trans (nvals_getD (by rw [HBy.out.1]; omega))⟩
          have fi : wr.frozen? ⟨B1, i, none⟩ = false := HBl.out.frozen _
          have HA := Lib.hid hia'
          have HX := Lib.hid hx
          have HY := Lib.hid hy
          clear hx hy hia'
          go_wp2_with fail
          go_still_tail 17, (by kernel_rfl)
          go_wp2_with fail
          go_roundw
          case rel =>
            refine ⟨k + 1, i + 1, l.set i (piT s), rfl, by have := HI.out; show _ = _; omega, by omega, by omega, ?_, HBy.out.set_ _ _ (piT_le s), ?_, ?_⟩
            · show _ = _
              have e1 : i = n + k := HI.out
              rw [fill1, ← HLL.out, st1, ← e1, HA.out, show i - n = q by omega, HX.out, HY.out, HS.out]
            · show Blk _ _ _ _
              rw [← nvals_set]
              exact (HBl.out.drewN 1).set_ _ _
            · show Below _ _ _
              exact (below_drewN HBe.out 1).setCell (p := ⟨B1, _, none⟩) (Nat.le_refl _) _
          case measure => simp [intOf]; omega
        · have hi128 : ¬ (i : Int) < 128 := by omega
          have HI8 : Hid (i = 128) := by show _ = _; omega
          clear hlt hni hi8
          obtain ⟨v, hv⟩ : ∃ v : Nat, (128 : Int) - (t8 : Int) = (v : Int) := ⟨128 - t8, by omega⟩
          have hv7 : v ≤ 127 := by omega
          have bv : (v : Int) < 128 := by omega
          have e5 : (127 : Int) - (t8 : Int) = (v : Int) - 1 := by omega
          have HV : Hid (v = 128 - t8) := by show _ = _; omega
          have ht8' : (t1 + 7) / 8 = t8 := HT8.out
          obtain ⟨u, hu⟩ : ∃ u : Nat, 8 * (t8 : Int) = (u : Int) := ⟨8 * t8, by omega⟩
          have wu : IntKind.i64.wrap (u : Int) = (u : Int) := IntWalk.i64_in _ (by omega)
          have wv : IntKind.i64.wrap (v : Int) = (v : Int) := IntWalk.i64_in _ (by omega)
          obtain ⟨d, hd, hd7⟩ : ∃ d : Nat, (u : Int) - (t1 : Int) = (d : Int) ∧ d ≤ 7 := ⟨8 * t8 - t1, by omega, by omega⟩
          have hmin : min d 64 = d := by omega
          have wd : IntKind.i64.wrap (d : Int) = (d : Int) := IntWalk.i64_in _ (by omega)
          have HDE : Hid (8 + t1 - 8 * t8 = 8 - d) := by show _ = _; omega
          obtain ⟨m, hm, hm5, HM⟩ : ∃ m : Nat, (255 : Int) / 2 ^ d = (m : Int) ∧ m ≤ 255 ∧ Hid (m = 255 % 2 ^ (8 - d)) := by
            have h : d = 0 ∨ d = 1 ∨ d = 2 ∨ d = 3 ∨ d = 4 ∨ d = 5 ∨ d = 6 ∨ d = 7 := by omega
            rcases h with rfl | rfl | rfl | rfl | rfl | rfl | rfl | rfl
            · exact ⟨255, by decide, by decide, by show _ = _; decide⟩
            · exact ⟨127, by decide, by decide, by show _ = _; decide⟩
            · exact ⟨63, by decide, by decide, by show _ = _; decide⟩
            · exact ⟨31, by decide, by decide, by show _ = _; decide⟩
            · exact ⟨15, by decide, by decide, by show _ = _; decide⟩
            · exact ⟨7, by decide, by decide, by show _ = _; decide⟩
            · exact ⟨3, by decide, by decide, by show _ = _; decide⟩
            · exact ⟨1, by decide, by decide, by show _ = _; decide⟩
          have wm : IntKind.i64.wrap (m : Int) = (m : Int) := IntWalk.i64_in _ (by omega)
          obtain ⟨x, hx⟩ : ∃ x, l.getD v 0 = x := ⟨_, rfl⟩
          have hx5 : x ≤ 255 := by rw [← hx]; exact HBy.out.2 v
          obtain ⟨s, es, hs, HS⟩ : ∃ s : Nat, bits .and .i64 (x : Int) (m : Int) = (s : Int) ∧ s < 256 ∧ Hid (s = (x &&& m)) := ⟨x &&& m, i64_and_nat _ _ (by omega) (by omega), by have := @Nat.and_le_left x m; omega, rfl⟩
          have bs : (s : Int) < 256 := by omega
          have cv : wr.cell? ⟨B1, v, none⟩ = some (.int .i64 (x : Int)) := by
            rw [HBl.out.cell, nvals_getD (by rw [HBy.out.1]; omega), hx]
          have cs : wr.cell? ⟨gp, s, none⟩ = some (.int .i64 (piT s : Int)) := by
            rw [HPw.out.cell, nvals_getD (by simp [piNats]; omega), piNats_get hs]
          have fv : wr.frozen? ⟨B1, v, none⟩ = false := HBl.out.frozen _
          have HX := Lib.hid hx
          clear hx ht8'
          go_wp2_with fail
          go_still_tail 16, (by kernel_rfl)
          go_wp2_with fail
          obtain ⟨L2, HL2⟩ : ∃ L2, Hid (L2 = l.set v (piT s)) := ⟨_, rfl⟩
          have HM2 : Hid (L2 = st2 piT t8 m (fill1 piT n (padded0 key) (128 - n))) := by
            show _ = _
            have hk : k = 128 - n := by have := HI.out; have := HI8.out; omega
            rw [HL2.out, st2, ← HV.out, ← hk, ← HLL.out, HX.out, HS.out]
          have HY2 : Hid (Byt L2) := by show Byt _; rw [HL2.out]; exact HBy.out.set_ _ _ (piT_le s)
          go_loopw [11] (fun ii wr => ∃ (k d : Nat) (l : List Nat), ii = .int .i64 ((d : Int) - 1) ∧ Hid (k + d = v) ∧ d ≤ v ∧ Hid (l = fill3 piT t8 L2 k) ∧ Hid (Byt l) ∧ Hid (Blk wr B1 81 (nvals .i64 l)) ∧ Hid (Below B1 w4 wr)) (fun ii _ => (match ii with | .int _ z => (z + 1).toNat | _ => 0))
          case atStart =>
            refine ⟨0, v, L2, rfl, by show _ = _; omega, Nat.le_refl _, rfl, HY2, ?_, ?_⟩
            · show Blk _ _ _ _
              rw [HL2.out, ← nvals_set]
              exact (HBl.out.drewN 1).set_ _ _
            · exact (below_drewN HBe.out 1).setCell (p := ⟨B1, _, none⟩) (Nat.le_refl _) _
          case round =>
            clear cv cs fv es HBl HBe HX HLL HBy hv e5 wm hm wd hd hu wu wv hmin HPw hi128 bs
            obtain ⟨k3, d3, l3, rfl, HI3, hdv, HL3, HY3, HBl3, HBe3⟩ := hrel
            have HPw : Hid (Blk wr gp 3 (nvals .i64 piNats)) := hP4.out.below HBe3.out hord.out.2.1
            rcases Nat.eq_zero_or_pos d3 with h0 | h0
            · have hd0 : (d3 : Int) - 1 = -1 := by omega
              have HD0 : Hid (d3 = 0) := by show _ = _; omega
              go_wp2_with (first | (refine wpList_build0 rfl 55 rfl _ (b55 _) ?_) | (refine wpList_alloc_arr rfl 55 rfl _ i0 hi hz0 ?_; intro w5 B2 HB2 hB2 hb5 hs5) | (refine wpList_store_blk rfl 55 (.tmp 12) (.tmp 91) rfl B2 55 _ (nvals .i64 (zeros 64)) rfl rfl hB2 rfl (by rw [hi]; simp [hz1, nvals_length, zeros]) nvals_one ?_; intro w6 hB6 hg6 hs6; replace hB6 := Lib.hid hB6))
              have HB12 : Hid (B1 + 1 ≤ B2) := by have h1 := HBl3.out.lt; have h2 := HB2.out; show _ ≤ _; omega
              have hb56 : Below (B1 + 1) wr w6 := (hb5.mono HBl3.out.lt).trans (below_of_grown hg6 HB12.out (Nat.le_trans HBl3.out.lt hb5.size))
              have HB6 : Hid (Blk w6 B1 81 (nvals .i64 l3)) := HBl3.out.below hb56 (Nat.lt_succ_self _)
              have HW6 : Hid (Below B1 w4 w6) := HBe3.out.trans (hb56.mono (Nat.le_succ _))
              have hl3 := HY3.out.1
              clear HBl3 HBe3 hd0 hs5 hb5 HPw hB2 hg6 hs6 hb56
              go_loopw [92] (fun jj wr => ∃ j : Nat, j ≤ 64 ∧ jj = .int .i64 (j : Int) ∧ Hid (Blk wr B2 55 (nvals .i64 (pairsUp l3 j))) ∧ Hid (Below (B1 + 1) w6 wr)) (fun jj _ => 64 - (intOf jj).toNat)
              case atStart => exact ⟨0, by omega, rfl, hB6, Below.refl _ _⟩
              case round =>
                obtain ⟨j, hj64, rfl, HP2, HQ2⟩ := hrel
                clear hB6
                by_cases hlt : j < 64
                · obtain ⟨r, hr⟩ : ∃ r : Nat, 2 * (j : Int) = (r : Int) := ⟨2 * j, by omega⟩
                  obtain ⟨r', hr'⟩ : ∃ r' : Nat, (r : Int) + 1 = (r' : Int) := ⟨r + 1, by omega⟩
                  obtain ⟨x, hx⟩ : ∃ x, l3.getD r 0 = x := ⟨_, rfl⟩
                  obtain ⟨y, hy⟩ : ∃ y, l3.getD r' 0 = y := ⟨_, rfl⟩
                  have hx5 : x ≤ 255 := by rw [← hx]; exact HY3.out.2 _
                  have hy5 : y ≤ 255 := by rw [← hy]; exact HY3.out.2 _
                  have cx : wr.cell? ⟨B1, r, none⟩ = some (.int .i64 (x : Int)) := by
                    rw [(HB6.out.below HQ2.out (Nat.lt_succ_self _)).cell, nvals_getD (by omega), hx]
                  have cy : wr.cell? ⟨B1, r', none⟩ = some (.int .i64 (y : Int)) := by
                    rw [(HB6.out.below HQ2.out (Nat.lt_succ_self _)).cell, nvals_getD (by omega), hy]
                  obtain ⟨old, ci⟩ : ∃ v, wr.cell? ⟨B2, j, none⟩ = some v := ⟨_, (HP2.out.cell _).trans (nvals_getD (by rw [pairsUp_length]; omega))⟩
                  have fi : wr.frozen? ⟨B2, j, none⟩ = false := HP2.out.frozen _
                  have br : (r : Int) < 128 := by omega
                  have br' : (r' : Int) < 128 := by omega
                  have bj : (j : Int) < 64 := by omega
                  have wr1 : IntKind.i64.wrap (r : Int) = (r : Int) := IntWalk.i64_in _ (by omega)
                  have wr2 : IntKind.i64.wrap (r' : Int) = (r' : Int) := IntWalk.i64_in _ (by omega)
                  obtain ⟨z, hz⟩ : ∃ z : Nat, 256 * (y : Int) = (z : Int) := ⟨256 * y, by omega⟩
                  have wz : IntKind.i64.wrap (z : Int) = (z : Int) := IntWalk.i64_in _ (by omega)
                  obtain ⟨zz, hzz⟩ : ∃ zz : Nat, (x : Int) + (z : Int) = (zz : Int) := ⟨x + z, by omega⟩
                  have wzz : IntKind.i64.wrap (zz : Int) = (zz : Int) := IntWalk.i64_in _ (by omega)
                  have HX := Lib.hid hx
                  have HY := Lib.hid hy
                  clear hx hy
                  go_wp2_with fail
                  go_still_tail 13, (by kernel_rfl)
                  go_wp2_with fail
                  go_roundw
                  case rel =>
                    refine ⟨j + 1, by omega, by go_num, ?_, ?_⟩
                    · show Blk _ _ _ _
                      rw [← pairsUp_set, show 2 * j = r by omega, show r + 1 = r' by omega, HX.out, HY.out, show x + 256 * y = zz by omega, ← nvals_set]
                      exact (HP2.out.drewN 1).set_ _ _
                    · show Below _ _ _
                      exact (below_drewN HQ2.out 1).setCell (p := ⟨B2, _, none⟩) HB12.out _
                  case measure => simp [intOf]; omega
                · have hj0 : ¬ (j : Int) < 64 := by omega
                  have hz64 : j = 64 := by omega
                  have hP := HP2.out
                  rw [hz64, pairsUp_all] at hP
                  have HPP := Lib.hid hP
                  have hB0w : Blk wr B0 55 (nvals .i64 (zeros 64)) :=
                    (h04.out.below HW6.out hord.out.1).below HQ2.out (by have := hord.out.1; omega)
                  have HB0w := Lib.hid hB0w
                  clear hP hB0w hz64 HP2
                  go_wp2_with (first | (refine wpList_load_row rfl 55 (.tmp 12) rfl B2 rfl 55 _ (0, 0) _ HPP.out underlying55 rfl (by rw [hi]; simp [hz1, nvals_length, pairs]) ?_) | (refine wpList_store_blk rfl 55 (.tmp 4) (.tmp 109) rfl B0 55 _ (nvals .i64 (pairs l3)) rfl rfl HB0w.out (by simp [nvals_length, pairs, zeros]) (by rw [hi]; simp [hz1, nvals_length, pairs]) nvals_one ?_; intro w7 hB7 hg7 hs7; replace hB7 := Lib.hid hB7))
                  have hf : pairs l3 = expanded piT key t1 := by
                    have ek : k3 = 128 - t8 := by have h1 := HI3.out; have h2 := HD0.out; have h3 := HV.out; omega
                    rw [expanded, expandedBytes, HT8.out, HL.out, HDE.out, ← HM.out, ← HM2.out, ← ek, ← HL3.out]
                  refine bodyPost_ret (results_cell_row rfl _ _ B0 55 (nvals .i64 (pairs l3)).toArray (0, 0) _ rfl hB7.out underlying55 rfl (by rw [hi]; simp [hz1, nvals_length, pairs])) rfl ?_
                  refine ⟨by rw [hf], ?_⟩
                  have hwB : w.heap.size ≤ B1 := by have h1 := hord.out; omega
                  have h1 := HW4.out.trans (HW6.out.mono hwB)
                  have h2 := h1.trans (HQ2.out.mono (by omega))
                  exact h2.trans (below_of_grown hg7 hord.out.2.2 h2.size)
            · obtain ⟨b, hb⟩ : ∃ b : Nat, (d3 : Int) - 1 = (b : Int) := ⟨d3 - 1, by omega⟩
              obtain ⟨r, hr3⟩ : ∃ r : Nat, (b : Int) + (t8 : Int) = (r : Int) := ⟨b + t8, by omega⟩
              have hb1 : (b : Int) + 1 = (d3 : Int) := by omega
              have hl3 := HY3.out.1
              have hr7 : r ≤ 127 := by have := HV.out; omega
              have hd7 : d3 ≤ 127 := by omega
              obtain ⟨x, hx⟩ : ∃ x, l3.getD d3 0 = x := ⟨_, rfl⟩
              obtain ⟨y, hy⟩ : ∃ y, l3.getD r 0 = y := ⟨_, rfl⟩
              have hx5 : x ≤ 255 := by rw [← hx]; exact HY3.out.2 _
              have hy5 : y ≤ 255 := by rw [← hy]; exact HY3.out.2 _
              obtain ⟨s3, es, hs, HS3⟩ : ∃ s3 : Nat, bits .xor .i64 (x : Int) (y : Int) = (s3 : Int) ∧ s3 < 256 ∧ Hid (s3 = (x ^^^ y)) := ⟨x ^^^ y, i64_xor_nat _ _ (by omega) (by omega), Nat.xor_lt_two_pow (n := 8) (by omega) (by omega), rfl⟩
              have wb : IntKind.i64.wrap (b : Int) = (b : Int) := IntWalk.i64_in _ (by omega)
              have wd : IntKind.i64.wrap (d3 : Int) = (d3 : Int) := IntWalk.i64_in _ (by omega)
              have wb2 : IntKind.i64.wrap ((b : Int) - 1) = (b : Int) - 1 := IntWalk.i64_in _ (by omega)
              have wr3 : IntKind.i64.wrap (r : Int) = (r : Int) := IntWalk.i64_in _ (by omega)
              have bb : (b : Int) < 128 := by omega
              have bb1 : (d3 : Int) < 128 := by omega
              have bb3 : (r : Int) < 128 := by omega
              have bs3 : (s3 : Int) < 256 := by omega
              have cx : wr.cell? ⟨B1, d3, none⟩ = some (.int .i64 (x : Int)) := by
                rw [HBl3.out.cell, nvals_getD (by omega), hx]
              have cy : wr.cell? ⟨B1, r, none⟩ = some (.int .i64 (y : Int)) := by
                rw [HBl3.out.cell, nvals_getD (by omega), hy]
              have cs : wr.cell? ⟨gp, s3, none⟩ = some (.int .i64 (piT s3 : Int)) := by
                rw [HPw.out.cell, nvals_getD (by simp [piNats]; omega), piNats_get hs]
              obtain ⟨old, ci⟩ : ∃ v, wr.cell? ⟨B1, b, none⟩ = some v := ⟨_, (HBl3.out.cell _).trans (nvals_getD (by omega))⟩
              have fi : wr.frozen? ⟨B1, b, none⟩ = false := HBl3.out.frozen _
              have HX := Lib.hid hx
              have HY := Lib.hid hy
              clear hx hy
              go_wp2_with fail
              go_still_tail 15, (by kernel_rfl)
              go_wp2_with fail
              go_roundw
              case rel =>
                refine ⟨k3 + 1, b, l3.set b (piT s3), by go_num, by have := HI3.out; show _ = _; omega, by omega, ?_, HY3.out.set_ _ _ (piT_le s3), ?_, ?_⟩
                · show _ = _
                  have hv1 := HV.out
                  have hv2 := HI3.out
                  rw [fill3, ← HL3.out, st3, show 128 - t8 - 1 - k3 = b by omega, show b + 1 = d3 by omega, show b + t8 = r by omega, HX.out, HY.out, HS3.out]
                · show Blk _ _ _ _
                  rw [← nvals_set]
                  exact (HBl3.out.drewN 1).set_ _ _
                · show Below _ _ _
                  exact (below_drewN HBe3.out 1).setCell (p := ⟨B1, _, none⟩) (Nat.le_refl _) _
              case measure => simp; omega
end Go.Proofs.YtlnifplomlnoiaaDoor
