/- The laws' tests: hashOk, short (two texts of at most 200 bytes each). No condition. -/
import Derived.Test.YtlnifplomlnoiaaDoorSmall
namespace Go.Proofs.YtlnifplomlnoiaaDoor
open Go.RowKit

theorem handed_two (w : World) (A B : Option Addr) (n c m d : Nat) (t : TypeId) : Handed (w.alloc (.cells #[.slice A n c, .slice B m d] t)) w.heap.size [(A, n, c), (B, m, d)] := by
  intro j x hx
  match j, hx with
  | 0, hx => simp at hx; subst hx; exact cell_of_row _ _ _ _ _ _ (heap_alloc_new w _)
  | 1, hx => simp at hx; subst hx; exact cell_of_row _ _ _ _ _ _ (heap_alloc_new w _)
  | j + 2, hx => simp at hx

theorem shortFn_any (A : Option Addr) (n c : Nat) (w : World) :
    Calls Tryd.prog 38 #[.slice A n c] w fun E w' => E = .returned (.bool (decide ((200 : Int) < (n : Int)))) ∧ w = w' := by
  go_enter Tryd.func38, Tryd.ntmps38
  go_wp2_with fail
  go_ret
  exact ⟨rfl, rfl⟩

set_option maxHeartbeats 1000000 in
theorem indexFunc_any (g k c : Nat) (l : List (Option Addr × Nat × Nat)) (w : World) (hk : l.length = k) (hk8 : k ≤ 8) (hl : Handed w g l) :
    Calls Tryd.prog 55 #[.slice (some ⟨g, 0, none⟩) k c, .func (Fn.func 38) #[] #[]] w fun E w' => ∃ z : Int, E = .returned (.int .i64 z) ∧ decide (0 ≤ z) = l.any (fun x => decide ((200 : Int) < (x.2.1 : Int))) ∧ w = w' := by
  have HK := Lib.hid hk
  have HL := Lib.hid hl
  clear hk hl
  go_enter Tryd.func55, Tryd.ntmps55
  go_wp2_with fail
  go_loop [5, 8] (fun _ i => ∃ j : Nat, j ≤ k ∧ i = .int .i64 j ∧ Hid (∀ i x, l[i]? = some x → i < j → decide ((200 : Int) < (x.2.1 : Int)) = false)) (fun _ i => k - (intOf i).toNat)
  case atStart => exact ⟨0, Nat.zero_le _, rfl, fun i x _ h => absurd h (by omega)⟩
  case round =>
    obtain ⟨j, hj, rfl, HJ⟩ := hrel
    by_cases hlt : j < k
    · obtain ⟨x, hx⟩ : ∃ x, l[j]? = some x := ⟨_, List.getElem?_eq_getElem (by rw [HK.out]; omega)⟩
      have hc := HL.out j x hx
      obtain ⟨A, n, d⟩ := x
      have b1 : (j : Int) < (k : Int) := by omega
      have HX := Lib.hid hx
      clear hx
      go_wp2_with fail
      refine (shortFn_any A n d w).mono ?_
      rintro E w1 ⟨rfl, rfl⟩
      cases hd : decide ((200 : Int) < (n : Int)) with
      | true =>
        go_wp2_with fail
        go_ret
        refine ⟨_, rfl, ?_, rfl⟩
        rw [show decide (0 ≤ (j : Int)) = true by simp]
        symm
        rw [List.any_eq_true]
        exact ⟨_, List.mem_of_getElem? HX.out, hd⟩
      | false =>
        have HD := Lib.hid hd
        clear hd
        go_wp2_with fail
        go_round
        case rel =>
          refine ⟨j + 1, by omega, by go_num, fun i x hx hi => ?_⟩
          rcases Nat.lt_or_ge i j with h | h
          · exact HJ.out i x hx h
          · obtain rfl : i = j := by omega
            have := HX.out.symm.trans hx
            injection this with h1
            rw [← h1]
            exact HD.out
        case measure => simp [intOf]; omega
    · go_wp2_with fail
      go_ret
      refine ⟨_, rfl, ?_, rfl⟩
      symm
      rw [show decide (0 ≤ (-1 : Int)) = false by decide, List.any_eq_false]
      intro x hx
      obtain ⟨i, e⟩ := List.mem_iff_getElem?.1 hx
      have hi := (List.getElem?_eq_some_iff.1 e).1
      rw [HJ.out i x e (by rw [HK.out] at hi; omega)]
      simp

theorem short_any (A B : Option Addr) (n c m d : Nat) (g k : Nat) (w : World) (hl : Handed w g [(A, n, c), (B, m, d)]) :
    Calls Tryd.prog 18 #[.slice (some ⟨g, 0, none⟩) 2 k] w fun E w' => E = .returned (.bool (!(decide ((200 : Int) < (n : Int)) || decide ((200 : Int) < (m : Int))))) ∧ w = w' := by
  have HI := Lib.hid (indexFunc_any g 2 k _ w rfl (by omega) hl)
  go_enter Tryd.func18, Tryd.ntmps18
  go_wp2_with fail
  have HC : Hid (Calls Tryd.prog 37 #[.slice (some ⟨g, 0, none⟩) 2 k, .func (Fn.func 38) #[] #[]] w fun E w' => E = .returned (.bool (decide ((200 : Int) < (n : Int)) || decide ((200 : Int) < (m : Int)))) ∧ w = w') := by
    show Calls _ _ _ _ _
    go_enter Tryd.func37, Tryd.ntmps37
    go_wp2_with fail
    refine HI.out.mono ?_
    rintro E w1 ⟨z, rfl, hz, rfl⟩
    go_wp2_with fail
    go_ret
    exact ⟨rfl, rfl⟩
  refine HC.out.mono ?_
  rintro E w1 ⟨rfl, rfl⟩
  go_wp2_with fail
  go_ret
  refine ⟨?_, rfl⟩
  simp

theorem hashOk_any (h : Int) (w : World) : Calls Tryd.prog 17 #[.int .i64 h] w fun E w' => E = .returned (.bool (h == 1 || h == 2)) ∧ w = w' := by
  cases h1 : h == 1 with
  | true =>
    go_enter Tryd.func17, Tryd.ntmps17
    go_wp2_with fail
    go_ret
    exact ⟨rfl, rfl⟩
  | false =>
    cases h2 : h == 2 with
    | true =>
      go_enter Tryd.func17, Tryd.ntmps17
      go_wp2_with fail
      go_ret
      exact ⟨rfl, rfl⟩
    | false =>
      go_enter Tryd.func17, Tryd.ntmps17
      go_wp2_with fail
      go_ret
      exact ⟨rfl, rfl⟩
end Go.Proofs.YtlnifplomlnoiaaDoor
