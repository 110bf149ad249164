/- The cipher's key expansion. -/
import Derived.Test.YtlnifplomlnoiaaDoorArrays
import Derived.Test.YtlnifplomlnoiaaDoorKeyFn
import Derived.StillTailTactics
import Derived.Deep.RegionHeld3
import Derived.BigFrame
namespace Go.Proofs.YtlnifplomlnoiaaDoor
open Go.RowKit

theorem info75 : (Tryd.prog.info? 75).map (fun i => (i.zero, i.size, i.bytes)) = some (some (.agg (nvals .u16 (zeros 64)).toArray), 64, 128) := by kernel_rfl
theorem info5e : (Tryd.prog.info? 5).map (fun i => (i.zero, i.size, i.bytes)) = some (some (.int .u8 0), 1, 1) := by kernel_rfl

theorem underlying75 : Tryd.prog.underlying 75 = some (.array 64 74) := by kernel_rfl
/-- The table: 256 bytes at the first global. -/
def TabAt (w : World) (T : Nat → Nat) : Prop := ∀ j, j < 256 → w.cell? ⟨0, j, none⟩ = some (.int .u8 (T j : Int))
theorem TabAt.below {w w' : World} {T : Nat → Nat} {B : Nat} (h : TabAt w T) (hb : Below B w w') (h0 : 0 < B) : TabAt w' T := fun j hj => (hb.cell (p := ⟨0, j, none⟩) (show 0 < B from h0)).trans (h j hj)

theorem below_of_grown {B g : Nat} {w w' : World} (h : w.grownBy w' (some g)) (hg : B ≤ g) (hB : B ≤ w.heap.size) : Below B w w' :=
  ⟨h.os, h.tape, h.output, h.size, fun i hi => h.block i (Nat.lt_of_lt_of_le hi hB) (fun e => by simp at e; omega)⟩

theorem splice_padded (key : List Nat) (_h : key.length ≤ 128) : splice (List.replicate 128 (Value.int IntKind.u8 0)) 0 (nvals .u8 key) = nvals .u8 (padded0 key) := by
  unfold splice padded0 nvals
  rw [List.map_append, List.map_replicate, List.take_zero, List.nil_append, List.drop_replicate, List.length_map, Nat.zero_add]
  rfl

theorem wrap_nn8 (s : Nat) : IntKind.u8.wrap (s : Int) = ((s % 256 : Nat) : Int) := by
  have : IntKind.u8.wrap (s : Int) = (s : Int) % 256 := by
    simp [IntKind.wrap, IntKind.bits, IntKind.signed]
  rw [this]; omega

set_option maxRecDepth 1000000 in
set_option maxHeartbeats 4000000 in
theorem expandKey_any (T : Nat → Nat) (A : Option Addr) (n c t1 : Nat) (key : List Nat) (w : World) (hT : TabAt w T) (hTb : ∀ x, T x ≤ 255) (hr : Rd w w.heap.size A n (nvals .u8 key)) (hkb : ∀ x ∈ key, x ≤ 255) (hn0 : 1 ≤ n) (hn : n ≤ 128) (ht0 : 1 ≤ t1) (ht1 : t1 ≤ 1024) :
    Calls Tryd.prog 53 #[.slice A n c, .int .i64 (t1 : Int)] w fun E w' => E = .returned (.agg (nvals .u16 (expanded T key t1)).toArray) ∧ Below w.heap.size w w' := by
  obtain ⟨i0, hi, hz0, hz1, hz2⟩ := info_parts info75
  obtain ⟨j0, hj, hy0, hy1, hy2⟩ := info_parts info5e
  have hl : key.length = n := by rw [← nvals_length .u8]; exact hr.1
  have HL := Lib.hid hl
  clear hl
  obtain ⟨g, o, rfl, hg, hcell⟩ := hr.at_ (k := 0) (by omega)
  have HC := Lib.hid hcell
  have H0 : Hid (0 < w.heap.size) := Lib.hid (by omega)
  have HT := Lib.hid hT
  have HTb := Lib.hid hTb
  have HKB := Lib.hid hkb
  clear hcell hT hTb hkb
  obtain ⟨t8, ht8⟩ : ∃ t8, (t1 + 7) / 8 = t8 := ⟨_, rfl⟩
  have e1 : IntKind.i64.wrap (Int.tdiv ((t1 : Int) + 7) 8) = (t8 : Int) := by
    rw [show Int.tdiv ((t1 : Int) + 7) 8 = (t8 : Int) by rw [Int.tdiv_eq_ediv_of_nonneg (by omega)]; omega]
    exact IntWalk.i64_in _ (by omega)
  have h80 : 1 ≤ t8 := by omega
  have h81 : t8 ≤ 128 := by omega
  obtain ⟨e, he, he1, he8⟩ : ∃ e : Nat, (8 : Int) + (t1 : Int) - 8 * (t8 : Int) = (e : Int) ∧ 1 ≤ e ∧ e ≤ 8 := ⟨8 + t1 - 8 * t8, by omega, by omega, by omega⟩
  obtain ⟨p, e2, p2, p256, HP⟩ : ∃ p : Nat, IntKind.u64.wrap (2 ^ e) = (p : Int) ∧ 2 ≤ p ∧ p ≤ 256 ∧ Hid (p = 2 ^ e) := by
    have h : e = 1 ∨ e = 2 ∨ e = 3 ∨ e = 4 ∨ e = 5 ∨ e = 6 ∨ e = 7 ∨ e = 8 := by omega
    rcases h with rfl | rfl | rfl | rfl | rfl | rfl | rfl | rfl <;> exact ⟨_, by decide, by decide, by decide, rfl⟩
  obtain ⟨m, e3, m255, HM⟩ : ∃ m : Nat, (255 : Int) % (p : Int) = (m : Int) ∧ m ≤ 255 ∧ Hid (m = 255 % p) := ⟨255 % p, by simp, Nat.mod_le _ _, rfl⟩
  have e4 : (m : Int) % 256 = (m : Int) := by omega
  obtain ⟨v, hv⟩ : ∃ v : Nat, (128 : Int) - (t8 : Int) = (v : Int) := ⟨128 - t8, by omega⟩
  have hv7 : v ≤ 127 := by omega
  have bv : (v : Int) < 128 := by omega
  have e5 : (127 : Int) - (t8 : Int) = (v : Int) - 1 := by omega
  have HV : Hid (v = 128 - t8) := by show _ = _; omega
  have HT8 := Lib.hid ht8
  have HE := Lib.hid he
  clear ht8
  go_enter Tryd.func53, Tryd.ntmps53
  go_wp2_with (first | (refine wpList_alloc_arr rfl 75 rfl _ i0 hi hz0 ?_; intro w1 B0 HB0 hB0 hb1 hs1; replace hB0 := Lib.hid hB0) | (at_make; refine wpList_make_blk rfl _ _ 22 rfl 5 j0 _ Tryd.underlying22 hj hy0 hy1 rfl _ _ 128 rfl rfl (by rw [hy2]; omega) (by omega) ?_; intro w2 B1 HB1 hB1 hb2 hs2) | (refine wpList_copy_splice rfl (.tmp 14) (.tmp 15) 22 22 rfl 5 Tryd.underlying22 (by rw [hj]; simp [hy1]) (some ⟨B1, 0, none⟩) (some ⟨g, o, none⟩) 128 128 n c rfl rfl B1 0 _ 5 hB1 (nvals .u8 key) (by rw [nvals_length, HL.out]; exact (Nat.min_eq_left hn).symm) (fun _ => ⟨rfl, _, rfl, fun j v hv => by rw [Addr.add_mid, hb2.cell (Nat.lt_of_lt_of_le hg hb1.size), hb1.cell hg]; exact HC.out j v hv⟩) (by rw [nvals_length, HL.out, List.length_replicate]; omega) nvals_one w1.heap.size w1 hb2 (Nat.le_of_eq HB1.out.symm) ?_; intro w3 HB3 hb3))
  have hB3 : Blk w3 B1 5 (nvals .u8 (padded0 key)) := by
    have h := HB3.out
    rw [splice_padded key (by rw [HL.out]; exact hn)] at h
    exact h
  replace hB3 := Lib.hid hB3
  replace hb3 := Lib.hid hb3
  clear HB3 hB1 hb2 hs2 e1 e2 e3 e4 he
  have HB : Hid (Byt (padded0 key)) := byt_padded (by rw [HL.out]; exact hn) HKB.out
  go_loopw [9] (fun ii wr => ∃ (k i : Nat) (l : List Nat), ii = .int .i64 (i : Int) ∧ Hid (i = n + k) ∧ n ≤ i ∧ i ≤ 128 ∧ Hid (l = fill1 T n (padded0 key) k) ∧ Hid (Byt l) ∧ Hid (Blk wr B1 5 (nvals .u8 l)) ∧ Hid (Below w1.heap.size w1 wr)) (fun ii _ => 128 - (intOf ii).toNat)
  case atStart => exact ⟨0, n, _, rfl, rfl, Nat.le_refl _, hn, rfl, HB, hB3, hb3⟩
  case round =>
    obtain ⟨k, i, l, rfl, HI, hni, hi8, HLL, HBy, HBl, HBe⟩ := hrel
    clear hB3 hb3
    by_cases hlt : i < 128
    · obtain ⟨a, hia⟩ : ∃ a : Nat, (i : Int) - 1 = (a : Int) := ⟨i - 1, by omega⟩
      have hia' : i - 1 = a := by omega
      obtain ⟨q, hq⟩ : ∃ q : Nat, (i : Int) - (n : Int) = (q : Int) := ⟨i - n, by omega⟩
      have hq7 : q ≤ 127 := by omega
      have wa : IntKind.i64.wrap (a : Int) = (a : Int) := IntWalk.i64_in _ (by omega)
      have wq : IntKind.i64.wrap (q : Int) = (q : Int) := IntWalk.i64_in _ (by omega)
      have wq8 : IntKind.u8.wrap (q : Int) = (q : Int) := IntWalk.u8_in _ (by omega)
      have bq : (q : Int) < 128 := by omega
      have ba : (a : Int) < 128 := by omega
      have bi : (i : Int) < 128 := by omega
      have HA := Lib.hid hia'
      clear hia'
      obtain ⟨x, hx⟩ : ∃ x, l.getD a 0 = x := ⟨_, rfl⟩
      obtain ⟨y, hy⟩ : ∃ y, l.getD q 0 = y := ⟨_, rfl⟩
      obtain ⟨s, es, hs, HS⟩ : ∃ s : Nat, IntKind.u8.wrap ((x : Int) + (y : Int)) = (s : Int) ∧ s < 256 ∧ Hid (s = (x + y) % 256) := ⟨(x + y) % 256, wrap_nn8 (x + y), by omega, rfl⟩
      have ca : wr.cell? ⟨B1, a, none⟩ = some (.int .u8 (x : Int)) := by
        rw [HBl.out.cell, nvals_getD (by rw [HBy.out.1]; omega), hx]
      have cq : wr.cell? ⟨B1, q, none⟩ = some (.int .u8 (y : Int)) := by
        rw [HBl.out.cell, nvals_getD (by rw [HBy.out.1]; omega), hy]
      have cs : wr.cell? ⟨0, s, none⟩ = some (.int .u8 (T s : Int)) := ((HT.out.below hb1 H0.out).below HBe.out (Nat.lt_of_lt_of_le H0.out hb1.size)) s hs
      obtain ⟨old, ci⟩ : ∃ v, wr.cell? ⟨B1, i, none⟩ = some v := ⟨_, (HBl.out.cell _).trans (nvals_getD (by rw [HBy.out.1]; omega))⟩
      have fi : wr.frozen? ⟨B1, i, none⟩ = false := HBl.out.frozen _
      have bs : (s : Int) < 256 := by omega
      have HX := Lib.hid hx
      have HY := Lib.hid hy
      clear hx hy
      go_wp2_with fail
      go_still_tail 18, (by kernel_rfl)
      go_wp2_with fail
      go_roundw
      case rel =>
        refine ⟨k + 1, i + 1, l.set i (T s), rfl, by have := HI.out; show _ = _; omega, by omega, by omega, ?_, HBy.out.set_ _ _ (HTb.out s), ?_, ?_⟩
        · show _ = _
          have e1 : i = n + k := HI.out
          rw [fill1, ← HLL.out, st1, ← e1, HA.out, show i - n = q by omega, HX.out, HY.out, HS.out]
        · show Blk _ _ _ _
          rw [← nvals_set]
          exact (HBl.out.drewN 1).set_ _ _
        · show Below _ _ _
          exact (below_drewN HBe.out 1).setCell (p := ⟨B1, _, none⟩) (Nat.le_of_eq HB1.out.symm) _
      case measure => simp [intOf]; omega
    · have hi128 : ¬ (i : Int) < 128 := by omega
      have HI8 : Hid (i = 128) := by show _ = _; omega
      clear hlt hni hi8
      obtain ⟨x, hx⟩ : ∃ x, l.getD v 0 = x := ⟨_, rfl⟩
      have hx5 : x ≤ 255 := by rw [← hx]; exact HBy.out.2 v
      obtain ⟨s, es, hs, HS⟩ : ∃ s : Nat, bits .and .u8 (x : Int) (m : Int) = (s : Int) ∧ s < 256 ∧ Hid (s = (x &&& m)) := ⟨x &&& m, u8_and_nat _ _ (by omega) (by omega), by have := @Nat.and_le_left x m; omega, rfl⟩
      have cv : wr.cell? ⟨B1, v, none⟩ = some (.int .u8 (x : Int)) := by
        rw [HBl.out.cell, nvals_getD (by rw [HBy.out.1]; omega), hx]
      have cs : wr.cell? ⟨0, s, none⟩ = some (.int .u8 (T s : Int)) := ((HT.out.below hb1 H0.out).below HBe.out (Nat.lt_of_lt_of_le H0.out hb1.size)) s hs
      have fv : wr.frozen? ⟨B1, v, none⟩ = false := HBl.out.frozen _
      have bs : (s : Int) < 256 := by omega
      have HX := Lib.hid hx
      clear hx
      go_wp2_with fail
      obtain ⟨L2, HL2⟩ : ∃ L2, Hid (L2 = l.set v (T s)) := ⟨_, rfl⟩
      have HM2 : Hid (L2 = st2 T t8 m (fill1 T n (padded0 key) (128 - n))) := by
        show _ = _
        have hk : k = 128 - n := by have := HI.out; have := HI8.out; omega
        rw [HL2.out, st2, ← HV.out, ← hk, ← HLL.out, HX.out, HS.out]
      have HY2 : Hid (Byt L2) := by show Byt _; rw [HL2.out]; exact HBy.out.set_ _ _ (HTb.out s)
      go_loopw [10] (fun ii wq => ∃ (k d : Nat) (l : List Nat), ii = .int .i64 ((d : Int) - 1) ∧ Hid (k + d = v) ∧ d ≤ v ∧ Hid (l = fill3 T t8 L2 k) ∧ Hid (Byt l) ∧ Hid (Blk wq B1 5 (nvals .u8 l)) ∧ Hid (Below w1.heap.size w1 wq)) (fun ii _ => (match ii with | .int _ z => (z + 1).toNat | _ => 0))
      case atStart =>
        refine ⟨0, v, L2, rfl, by show _ = _; omega, Nat.le_refl _, rfl, HY2, ?_, ?_⟩
        · show Blk _ _ _ _
          rw [HL2.out, ← nvals_set]
          exact HBl.out.set_ _ _
        · exact HBe.out.setCell (p := ⟨B1, _, none⟩) (Nat.le_of_eq HB1.out.symm) _
      case round =>
        clear cv cs fv es HBl HBe HX HLL HBy hv e5
        have hb1' := hb1
        obtain ⟨k3, d, l3, rfl, HI3, hdv, HL3, HY3, HBl3, HBe3⟩ := hrel
        rcases Nat.eq_zero_or_pos d with h0 | h0
        · have hd0 : (d : Int) - 1 = -1 := by omega
          go_wp2_with (refine wpList_alloc_arr rfl 75 rfl _ i0 hi hz0 ?_; intro w5 B2 HB2 hB2 hb5 hs5; replace hB2 := Lib.hid hB2)
          have HD0 : Hid (d = 0) := by show _ = _; omega
          have HB5 : Hid (Blk w5 B1 5 (nvals .u8 l3)) := HBl3.out.below hb5 HBl3.out.lt
          have HW5 : Hid (Below w1.heap.size w1 w5) := HBe3.out.trans (hb5.mono HBe3.out.size)
          have hl3 := HY3.out.1
          have HB12 : Hid (B1 + 1 ≤ B2) := by have h1 := HBl3.out.lt; have h2 := HB2.out; show _ ≤ _; omega
          clear HBl3 HBe3 hd0 hs5 hb5
          go_loopw [92] (fun jj wr => ∃ j : Nat, j ≤ 64 ∧ jj = .int .i64 (j : Int) ∧ Hid (Blk wr B2 75 (nvals .u16 (pairsUp l3 j))) ∧ Hid (Below (B1 + 1) w5 wr)) (fun jj _ => 64 - (intOf jj).toNat)
          case atStart => exact ⟨0, by omega, rfl, hB2, Below.refl _ _⟩
          case round =>
            obtain ⟨j, hj64, rfl, HP2, HQ2⟩ := hrel
            clear hB2
            by_cases hlt : j < 64
            · obtain ⟨r, hr⟩ : ∃ r : Nat, 2 * (j : Int) = (r : Int) := ⟨2 * j, by omega⟩
              obtain ⟨r', hr'⟩ : ∃ r' : Nat, (r : Int) + 1 = (r' : Int) := ⟨r + 1, by omega⟩
              obtain ⟨x, hx⟩ : ∃ x, l3.getD r 0 = x := ⟨_, rfl⟩
              obtain ⟨y, hy⟩ : ∃ y, l3.getD r' 0 = y := ⟨_, rfl⟩
              have hx5 : x ≤ 255 := by rw [← hx]; exact HY3.out.2 _
              have hy5 : y ≤ 255 := by rw [← hy]; exact HY3.out.2 _
              have cx : wr.cell? ⟨B1, r, none⟩ = some (.int .u8 (x : Int)) := by
                rw [(HB5.out.below HQ2.out (Nat.lt_succ_self _)).cell, nvals_getD (by omega), hx]
              have cy : wr.cell? ⟨B1, r', none⟩ = some (.int .u8 (y : Int)) := by
                rw [(HB5.out.below HQ2.out (Nat.lt_succ_self _)).cell, nvals_getD (by omega), hy]
              obtain ⟨old, ci⟩ : ∃ v, wr.cell? ⟨B2, j, none⟩ = some v := ⟨_, (HP2.out.cell _).trans (nvals_getD (by rw [pairsUp_length]; omega))⟩
              have fi : wr.frozen? ⟨B2, j, none⟩ = false := HP2.out.frozen _
              have br : (r : Int) < 128 := by omega
              have br' : (r' : Int) < 128 := by omega
              have bj : (j : Int) < 64 := by omega
              have wr1 : IntKind.i64.wrap (r : Int) = (r : Int) := IntWalk.i64_in _ (by omega)
              have wr2 : IntKind.i64.wrap (r' : Int) = (r' : Int) := IntWalk.i64_in _ (by omega)
              have wx : IntKind.u16.wrap (x : Int) = (x : Int) := IntWalk.u16_in _ (by omega)
              have wy : IntKind.u16.wrap (y : Int) = (y : Int) := IntWalk.u16_in _ (by omega)
              obtain ⟨z, hz⟩ : ∃ z : Nat, (y : Int) * 256 = (z : Int) := ⟨y * 256, by omega⟩
              have wz : IntKind.u16.wrap (z : Int) = (z : Int) := IntWalk.u16_in _ (by omega)
              obtain ⟨zz, hzz⟩ : ∃ zz : Nat, (x : Int) + (z : Int) = (zz : Int) := ⟨x + z, by omega⟩
              have wzz : IntKind.u16.wrap (zz : Int) = (zz : Int) := IntWalk.u16_in _ (by omega)
              have HX := Lib.hid hx
              have HY := Lib.hid hy
              clear hx hy
              go_wp2_with fail
              go_still_tail 17, (by kernel_rfl)
              go_wp2_with fail
              go_roundw
              case rel =>
                refine ⟨j + 1, by omega, by go_num, ?_, ?_⟩
                · show Blk _ _ _ _
                  rw [← pairsUp_set, show 2 * j = r by omega, show r + 1 = r' by omega, HX.out, HY.out, show x + 256 * y = zz by omega, ← nvals_set]
                  exact (HP2.out.drewN 1).set_ _ _
                · show Below _ _ _
                  exact (below_drewN HQ2.out 1).setCell (p := ⟨B2, _, none⟩) HB12.out _
              case measure => simp [intOf]; omega
            · have hj0 : ¬ (j : Int) < 64 := by omega
              have hz64 : j = 64 := by omega
              have hP := HP2.out
              rw [hz64, pairsUp_all] at hP
              have HPP := Lib.hid hP
              have hB0w : Blk wr B0 75 (nvals .u16 (zeros 64)) := by
                have h1 : B0 < w1.heap.size := hB0.out.lt
                exact (hB0.out.below HW5.out h1).below HQ2.out (by have := HB1.out; omega)
              have HB0w := Lib.hid hB0w
              clear hP hB0w hz64 HP2
              go_wp2_with (first | (refine wpList_load_row rfl 75 (.tmp 11) rfl B2 rfl 75 _ (0, 0) _ HPP.out underlying75 rfl (by rw [hi]; simp [hz1, nvals_length, pairs]) ?_) | (refine wpList_store_blk rfl 75 (.tmp 4) (.tmp 113) rfl B0 75 _ (nvals .u16 (pairs l3)) rfl rfl HB0w.out (by simp [nvals_length, pairs, zeros]) (by rw [hi]; simp [hz1, nvals_length, pairs]) nvals_one ?_; intro w6 hB6 hg6 hs6; replace hB6 := Lib.hid hB6))
              have hf : pairs l3 = expanded T key t1 := by
                have ek : k3 = 128 - t8 := by have h1 := HI3.out; have h2 := HD0.out; have h3 := HV.out; omega
                have ee : e = 8 + t1 - 8 * t8 := by have := HE.out; omega
                rw [expanded, expandedBytes, HT8.out, HL.out, ← ee, ← HP.out, ← HM.out, ← HM2.out, ← ek, ← HL3.out]
              refine bodyPost_ret (results_cell_row rfl _ _ B0 75 (nvals .u16 (pairs l3)).toArray (0, 0) _ rfl hB6.out underlying75 rfl (by rw [hi]; simp [hz1, nvals_length, pairs])) rfl ?_
              refine ⟨by rw [hf], ?_⟩
              have h1 := hb1.trans (HW5.out.mono hb1.size)
              have h2 := h1.trans (HQ2.out.mono (by have a1 := h1.size; have a2 := HB1.out; have a3 := hb1.size; omega))
              exact h2.trans (below_of_grown hg6 (Nat.le_of_eq HB0.out.symm) h2.size)
        · obtain ⟨b, hb⟩ : ∃ b : Nat, (d : Int) - 1 = (b : Int) := ⟨d - 1, by omega⟩
          obtain ⟨r, hr3⟩ : ∃ r : Nat, (b : Int) + (t8 : Int) = (r : Int) := ⟨b + t8, by omega⟩
          have hb1 : (b : Int) + 1 = (d : Int) := by omega
          have hl3 := HY3.out.1
          have hr7 : r ≤ 127 := by have := HV.out; omega
          have hd7 : d ≤ 127 := by omega
          obtain ⟨x, hx⟩ : ∃ x, l3.getD d 0 = x := ⟨_, rfl⟩
          obtain ⟨y, hy⟩ : ∃ y, l3.getD r 0 = y := ⟨_, rfl⟩
          have hx5 : x ≤ 255 := by rw [← hx]; exact HY3.out.2 _
          have hy5 : y ≤ 255 := by rw [← hy]; exact HY3.out.2 _
          obtain ⟨s3, es, hs, HS3⟩ : ∃ s3 : Nat, bits .xor .u8 (x : Int) (y : Int) = (s3 : Int) ∧ s3 < 256 ∧ Hid (s3 = (x ^^^ y)) := ⟨x ^^^ y, u8_xor_nat _ _ (by omega) (by omega), Nat.xor_lt_two_pow (n := 8) (by omega) (by omega), rfl⟩
          have wb : IntKind.i64.wrap (b : Int) = (b : Int) := IntWalk.i64_in _ (by omega)
          have wd : IntKind.i64.wrap (d : Int) = (d : Int) := IntWalk.i64_in _ (by omega)
          have wb2 : IntKind.i64.wrap ((b : Int) - 1) = (b : Int) - 1 := IntWalk.i64_in _ (by omega)
          have wr3 : IntKind.i64.wrap (r : Int) = (r : Int) := IntWalk.i64_in _ (by omega)
          have bb : (b : Int) < 128 := by omega
          have bb1 : (d : Int) < 128 := by omega
          have bb3 : (r : Int) < 128 := by omega
          have bs3 : (s3 : Int) < 256 := by omega
          have cx : wr.cell? ⟨B1, d, none⟩ = some (.int .u8 (x : Int)) := by
            rw [HBl3.out.cell, nvals_getD (by omega), hx]
          have cy : wr.cell? ⟨B1, r, none⟩ = some (.int .u8 (y : Int)) := by
            rw [HBl3.out.cell, nvals_getD (by omega), hy]
          have cs : wr.cell? ⟨0, s3, none⟩ = some (.int .u8 (T s3 : Int)) := ((HT.out.below hb1' H0.out).below HBe3.out (Nat.lt_of_lt_of_le H0.out hb1'.size)) s3 hs
          obtain ⟨old, ci⟩ : ∃ v, wr.cell? ⟨B1, b, none⟩ = some v := ⟨_, (HBl3.out.cell _).trans (nvals_getD (by omega))⟩
          have fi : wr.frozen? ⟨B1, b, none⟩ = false := HBl3.out.frozen _
          have HX := Lib.hid hx
          have HY := Lib.hid hy
          clear hx hy
          go_wp2_with fail
          go_still_tail 17, (by kernel_rfl)
          go_wp2_with fail
          go_roundw
          case rel =>
            refine ⟨k3 + 1, b, l3.set b (T s3), by go_num, by have := HI3.out; show _ = _; omega, by omega, ?_, HY3.out.set_ _ _ (HTb.out s3), ?_, ?_⟩
            · show _ = _
              have hv1 := HV.out
              have hv2 := HI3.out
              rw [fill3, ← HL3.out, st3, show 128 - t8 - 1 - k3 = b by omega, show b + 1 = d by omega, show b + t8 = r by omega, HX.out, HY.out, HS3.out]
            · show Blk _ _ _ _
              rw [← nvals_set]
              exact (HBl3.out.drewN 1).set_ _ _
            · show Below _ _ _
              exact (below_drewN HBe3.out 1).setCell (p := ⟨B1, _, none⟩) (Nat.le_of_eq HB1.out.symm) _
          case measure => simp; omega
end Go.Proofs.YtlnifplomlnoiaaDoor
