/- slices.Equal at bytes: whether two slices read as the same list. No condition beyond that they read as lists. -/
import Derived.Test.YtlnifplomlnoiaaDoorBase
import Derived.Test.YtlnifplomlnoiaaDoorProg
namespace Go.Proofs.YtlnifplomlnoiaaDoor
open Go.RowKit

theorem neq_u8 (a b : UInt8) : ((a.toNat : Int) != (b.toNat : Int)) = (a != b) := by
  by_cases h : a = b
  · subst h; simp
  · have h' : ¬ a.toNat = b.toNat := fun e => h (UInt8.toNat_inj.1 e)
    have h1 : ((a.toNat : Int) != (b.toNat : Int)) = true := by rw [bne_iff_ne]; omega
    rw [h1]; symm; simpa using h

set_option maxHeartbeats 1000000 in
theorem equal_any (A B : Option Addr) (n m c d : Nat) (xs ys : List UInt8) (w : World) (Bx By : Nat) (hx : Rd w Bx A n (bvals xs)) (hy : Rd w By B m (bvals ys)) (hn : n ≤ 4611686018427387904) :
    Calls Tryd.prog 14 #[.slice A n c, .slice B m d] w fun e w' => e = .returned (.bool (xs == ys)) ∧ ∃ k, w' = w.drewN k := by
  have lx : xs.length = n := by rw [← bvals_length]; exact hx.1
  have ly : ys.length = m := by rw [← bvals_length]; exact hy.1
  by_cases hnm : n = m
  · subst hnm
    go_enter Tryd.func14, Tryd.ntmps14
    go_wp2_with fail
    go_loopw [5, 13] (fun _ i wr => ∃ k q : Nat, k ≤ n ∧ i = .int .i64 k ∧ xs.take k = ys.take k ∧ wr = w.drewN q) (fun _ i _ => n - (intOf i).toNat)
    case atStart => exact ⟨0, 0, Nat.zero_le _, rfl, by simp, rfl⟩
    case round =>
      obtain ⟨k, q, hk, rfl, HT, rfl⟩ := hrel
      have HT' := Lib.hid HT
      clear HT
      by_cases hlt : k < n
      · obtain ⟨g, o, rfl, hg, hc⟩ := hx.at_ hlt
        obtain ⟨g', o', rfl, hg', hc'⟩ := hy.at_ hlt
        obtain ⟨x, hxx⟩ : ∃ x, xs[k]? = some x := ⟨_, List.getElem?_eq_getElem (by omega)⟩
        obtain ⟨y, hyy⟩ : ∃ y, ys[k]? = some y := ⟨_, List.getElem?_eq_getElem (by omega)⟩
        have c1 : w.cell? ⟨g, o + k, none⟩ = some (.int .u8 (x.toNat : Int)) := hc k _ (by rw [bvals_get? hxx])
        have c2 : w.cell? ⟨g', o' + k, none⟩ = some (.int .u8 (y.toNat : Int)) := hc' k _ (by rw [bvals_get? hyy])
        have b0 : (0 : Int) ≤ (k : Int) := by omega
        have b1 : (k : Int) < (n : Int) := by omega
        have HX := Lib.hid hxx
        have HY := Lib.hid hyy
        clear hc hc' hx hy hxx hyy lx ly
        go_wp2_with fail
        go_quiet (fail)
        go_wp2_with fail
        · have hne : ((x.toNat : Int) != (y.toNat : Int)) = true := by assumption
          rw [neq_u8] at hne
          go_ret
          refine ⟨?_, q + nq, World.drewN_drewN ..⟩
          have hf : (xs == ys) = false := by
            rw [beq_eq_false_iff_ne]
            rintro rfl
            have := HX.out.symm.trans HY.out
            simp only [Option.some.injEq] at this
            simp [this] at hne
          rw [hf]; rfl
        · have hne : ((x.toNat : Int) != (y.toNat : Int)) = false := by assumption
          rw [neq_u8] at hne
          have hxy : x = y := by simpa using hne
          go_roundw
          case rel =>
            refine ⟨k + 1, q + nq, by omega, by go_num, ?_, rfl⟩
            rw [List.take_add_one, List.take_add_one, HT'.out, HX.out, HY.out, hxy]
          case measure => simp [intOf]; omega
      · obtain rfl : k = n := by omega
        go_wp2_with fail
        go_ret
        refine ⟨?_, _, rfl⟩
        have hf : xs = ys := by
          have := HT'.out
          rwa [List.take_of_length_le (by omega), List.take_of_length_le (by omega)] at this
        subst hf
        simp
  · have hne : ((n : Int) != (m : Int)) = true := by rw [bne_iff_ne]; omega
    go_enter Tryd.func14, Tryd.ntmps14
    go_wp2_with fail
    go_ret
    refine ⟨?_, 0, rfl⟩
    have hf : (xs == ys) = false := by
      rw [beq_eq_false_iff_ne]
      rintro rfl
      exact hnm (by omega)
    rw [hf]; rfl
end Go.Proofs.YtlnifplomlnoiaaDoor
