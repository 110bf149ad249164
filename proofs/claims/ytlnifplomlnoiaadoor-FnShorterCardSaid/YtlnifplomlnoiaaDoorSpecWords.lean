/- spec.wordsOf: eight bytes as four words. -/
import Derived.Test.YtlnifplomlnoiaaDoorSpecExpand
import Derived.Test.YtlnifplomlnoiaaDoorSpecMix
import Derived.Test.YtlnifplomlnoiaaDoorBlock
namespace Go.Proofs.YtlnifplomlnoiaaDoor
open Go.RowKit

theorem info57 : (Tryd.prog.info? 57).map (fun i => (i.zero, i.size, i.bytes)) = some (some (.agg (nvals .i64 (zeros 4)).toArray), 4, 32) := by kernel_rfl
theorem underlying57 : Tryd.prog.underlying 57 = some (.array 4 3) := by kernel_rfl
theorem built57 : Tryd.prog.built 57 [] = some (nvals .i64 (zeros 4)).toArray := by kernel_rfl

/-- The first so many of four words, noughts behind them. -/
def quads (l : List Nat) (j : Nat) : List Nat := (List.range 4).map fun i => if i < j then l.getD (2 * i) 0 + 256 * l.getD (2 * i + 1) 0 else 0
theorem quads_length (l : List Nat) (j : Nat) : (quads l j).length = 4 := by simp [quads]
theorem quads_zero (l : List Nat) : quads l 0 = zeros 4 := rfl
theorem quads_set (l : List Nat) (j : Nat) : (quads l j).set j (l.getD (2 * j) 0 + 256 * l.getD (2 * j + 1) 0) = quads l (j + 1) := by
  apply List.ext_getElem
  · simp [quads]
  · intro i h1 h2
    rw [List.getElem_set]
    simp only [quads, List.getElem_map, List.getElem_range]
    by_cases h : j = i
    · subst h; simp
    · rw [if_neg h]
      by_cases h3 : i < j
      · rw [if_pos h3, if_pos (by omega)]
      · rw [if_neg h3, if_neg (by omega)]
theorem quads_words {blk : List UInt8} (h : blk.length = 8) : nvals .i64 (quads (nums blk) 4) = rvals (words (ints blk)) := by
  match blk, h with
  | [b0, b1, b2, b3, b4, b5, b6, b7], _ => simp [quads, nums, ints, words, rvals, nvals, List.range_succ]
theorem or_bytes (x y : Nat) (hx : x ≤ 255) : x ||| 256 * y = x + 256 * y := by
  have h := Nat.two_pow_add_eq_or_of_lt (i := 8) (b := x) (by omega) y
  rw [Nat.or_comm, show 256 * y = 2 ^ 8 * y by omega, ← h]
  omega

set_option maxRecDepth 1000000 in
set_option maxHeartbeats 4000000 in
theorem wordsOf_any (A : Option Addr) (c : Nat) (blk : List UInt8) (w : World) (hr : Rd w w.heap.size A 8 (bvals blk)) :
    Calls Tryd.prog 33 #[.slice A 8 c] w fun E w' => E = .returned (.agg (rvals (words (ints blk))).toArray) ∧ Below w.heap.size w w' := by
  obtain ⟨i0, hi, hz0, hz1, hz2⟩ := info_parts info57
  have b57 := fun w => run_build (P := Tryd.prog) w 57 #[] _ built57
  have hl : blk.length = 8 := by rw [← bvals_length]; exact hr.1
  have HL := Lib.hid hl
  clear hl
  obtain ⟨g, o, rfl, hg, hcell⟩ := hr.at_ (k := 0) (by omega)
  rw [← nvals_nums] at hcell
  have HC := Lib.hid hcell
  clear hcell
  obtain ⟨l, hll⟩ : ∃ l, l = nums blk := ⟨_, rfl⟩
  rw [← hll] at HC
  have HLL := Lib.hid hll
  have hle : Hid (∀ i, l.getD i 0 ≤ 255) := by
    intro i
    rw [List.getD_eq_getElem?_getD]
    cases h : l[i]? with
    | none => simp
    | some x => exact nums_le x (by rw [← hll]; exact List.mem_of_getElem? h)
  have hlen : Hid (l.length = 8) := by show _ = _; rw [hll, nums, List.length_map]; exact HL.out
  clear hll
  go_enter Tryd.func33, Tryd.ntmps33
  go_wp2_with (first | (refine wpList_build0 rfl 57 rfl _ (b57 _) ?_) | (refine wpList_store_blk rfl 57 (.tmp 3) (.tmp 5) rfl _ 57 _ (nvals .i64 (zeros 4)) rfl rfl ‹Blk _ _ 57 _› rfl (by rw [hi]; simp [hz1, nvals_length, zeros]) nvals_one ?_; intro w3 hB3 hg3 hs3; replace hB3 := Lib.hid hB3) | (refine wpList_alloc_arr rfl 57 rfl _ i0 hi hz0 ?_; intro w1 B0 HB0 hB0 hb1 hs1))
  rename_i w0 Br HBr hBr hbr hsr _ _
  have hb0 : Below w.heap.size w w1 := hbr.trans (hb1.mono hbr.size)
  have hord : Hid (Br < B0 ∧ w.heap.size ≤ Br) := by
    have a1 := hBr.lt
    have a2 := HB0.out
    have a3 := HBr.out
    exact ⟨by omega, by omega⟩
  have HW3 : Hid (Below w.heap.size w w3) := hb0.trans (below_of_grown hg3 (by have := hord.out; omega) hb0.size)
  have HR3 : Hid (Blk w3 Br 57 (nvals .i64 (zeros 4))) := (hBr.below hb1 hBr.lt).grown hg3 (by have := hord.out; simp; omega)
  clear hBr hbr hsr HBr hb1 hg3 hs3 hs1 HB0 hB0 hb0
  go_loopw [6] (fun jj wr => ∃ j : Nat, j ≤ 4 ∧ jj = .int .i64 (j : Int) ∧ Hid (Blk wr B0 57 (nvals .i64 (quads l j))) ∧ Hid (Below B0 w3 wr)) (fun jj _ => 4 - (intOf jj).toNat)
  case atStart => exact ⟨0, by omega, rfl, by rw [quads_zero]; exact hB3, Below.refl _ _⟩
  case round =>
    obtain ⟨j, hj4, rfl, HP2, HQ2⟩ := hrel
    clear hB3
    by_cases hlt : j < 4
    · obtain ⟨r, hr⟩ : ∃ r : Nat, 2 * (j : Int) = (r : Int) := ⟨2 * j, by omega⟩
      obtain ⟨r', hr'⟩ : ∃ r' : Nat, (r : Int) + 1 = (r' : Int) := ⟨r + 1, by omega⟩
      obtain ⟨x, hx⟩ : ∃ x, l.getD r 0 = x := ⟨_, rfl⟩
      obtain ⟨y, hy⟩ : ∃ y, l.getD r' 0 = y := ⟨_, rfl⟩
      have hx5 : x ≤ 255 := by rw [← hx]; exact hle.out _
      have hy5 : y ≤ 255 := by rw [← hy]; exact hle.out _
      have hgB : g < B0 := by have := hord.out; omega
      have cx : wr.cell? ⟨g, o + r, none⟩ = some (.int .u8 (x : Int)) := by
        rw [HQ2.out.cell hgB, HW3.out.cell hg, HC.out r _ (nvals_getD (by rw [hlen.out]; omega)), hx]
      have cy : wr.cell? ⟨g, o + r', none⟩ = some (.int .u8 (y : Int)) := by
        rw [HQ2.out.cell hgB, HW3.out.cell hg, HC.out r' _ (nvals_getD (by rw [hlen.out]; omega)), hy]
      obtain ⟨old, ci⟩ : ∃ v, wr.cell? ⟨B0, j, none⟩ = some v := ⟨_, (HP2.out.cell _).trans (nvals_getD (by rw [quads_length]; omega))⟩
      have fi : wr.frozen? ⟨B0, j, none⟩ = false := HP2.out.frozen _
      have br : (r : Int) < 8 := by omega
      have br' : (r' : Int) < 8 := by omega
      have bj : (j : Int) < 4 := by omega
      have wr1 : IntKind.i64.wrap (r : Int) = (r : Int) := IntWalk.i64_in _ (by omega)
      have wr2 : IntKind.i64.wrap (r' : Int) = (r' : Int) := IntWalk.i64_in _ (by omega)
      have wx : IntKind.i64.wrap (x : Int) = (x : Int) := IntWalk.i64_in _ (by omega)
      have wy : IntKind.i64.wrap (y : Int) = (y : Int) := IntWalk.i64_in _ (by omega)
      obtain ⟨z, hz⟩ : ∃ z : Nat, (y : Int) * 256 = (z : Int) := ⟨y * 256, by omega⟩
      have wz : IntKind.i64.wrap (z : Int) = (z : Int) := IntWalk.i64_in _ (by omega)
      obtain ⟨zz, hzz, hq⟩ : ∃ zz : Nat, bits .or .i64 (x : Int) (z : Int) = (zz : Int) ∧ zz = x + 256 * y := by
        refine ⟨x ||| z, i64_or_nat _ _ (by omega) (by omega), ?_⟩
        rw [show z = 256 * y by omega]
        exact or_bytes x y hx5
      have HQ := Lib.hid hq
      have HX := Lib.hid hx
      have HY := Lib.hid hy
      clear hx hy hq
      go_wp2_with fail
      go_still_tail 17, (by kernel_rfl)
      go_wp2_with fail
      go_roundw
      case rel =>
        refine ⟨j + 1, by omega, by go_num, ?_, ?_⟩
        · show Blk _ _ _ _
          rw [← quads_set, show 2 * j = r by omega, show r + 1 = r' by omega, HX.out, HY.out, ← HQ.out, ← nvals_set]
          exact (HP2.out.drewN 1).set_ _ _
        · show Below _ _ _
          exact (below_drewN HQ2.out 1).setCell (p := ⟨B0, _, none⟩) (Nat.le_refl _) _
      case measure => simp [intOf]; omega
    · have hj0 : ¬ (j : Int) < 4 := by omega
      have hz4 : j = 4 := by omega
      have hP := HP2.out
      rw [hz4, HLL.out, quads_words HL.out] at hP
      have HPP := Lib.hid hP
      have HB0w : Hid (Blk wr Br 57 (nvals .i64 (zeros 4))) := HR3.out.below HQ2.out hord.out.1
      obtain ⟨X, hX⟩ : ∃ X, X = rvals (words (ints blk)) := ⟨_, rfl⟩
      rw [← hX] at HPP
      have hXl : X.length = 4 := by rw [hX]; rfl
      have hX1 : ∀ u ∈ X, u.oneCell' = true := by
        intro u hu
        rw [hX, ← quads_words HL.out] at hu
        exact nvals_one u hu
      have HXX := Lib.hid hX
      clear hP hz4 HP2 hX
      go_wp2_with (first | (refine wpList_load_row rfl 57 (.tmp 3) rfl B0 rfl 57 _ (0, 0) _ HPP.out underlying57 rfl (by rw [hi]; simp [hz1, hXl]) ?_) | (refine wpList_store_blk rfl 57 (.tmp 2) (.tmp 27) rfl Br 57 _ X rfl rfl HB0w.out (by simp [nvals_length, hXl, zeros]) (by rw [hi]; simp [hz1, hXl]) hX1 ?_; intro w7 hB7 hg7 hs7; replace hB7 := Lib.hid hB7))
      refine bodyPost_ret (results_cell_row rfl _ _ Br 57 X.toArray (0, 0) _ rfl hB7.out underlying57 rfl (by rw [hi]; simp [hz1, hXl])) rfl ?_
      refine ⟨by rw [HXX.out], ?_⟩
      have h2 := HW3.out.trans (HQ2.out.mono (by have := hord.out; omega))
      exact h2.trans (below_of_grown hg7 hord.out.2 h2.size)
end Go.Proofs.YtlnifplomlnoiaaDoor
