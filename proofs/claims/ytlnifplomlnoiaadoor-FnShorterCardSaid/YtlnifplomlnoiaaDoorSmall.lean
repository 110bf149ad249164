/- Copies of bytes in new memory (impl.copied, slices.Clone), and areTexts at texts that are short enough. Texts of at most 2^40 bytes. -/
import Derived.Test.YtlnifplomlnoiaaDoorAppend
import Derived.Test.YtlnifplomlnoiaaDoorProg
namespace Go.Proofs.YtlnifplomlnoiaaDoor
open Go.RowKit

theorem info5s : (Tryd.prog.info? 5).map (fun i => (i.zero, i.size, i.bytes)) = some (some (.int .u8 0), 1, 1) := by kernel_rfl

/-- New bytes of the call's own, and nothing else turned. -/
def NewBytes (w : World) (bs : List UInt8) (v : Value) (w' : World) : Prop := w'.ownsRow w.heap.size 5 1 v bs.length (bvals bs) ∧ Below w.heap.size w w'

theorem copied_any (A : Option Addr) (n c : Nat) (bs : List UInt8) (w : World) (B : Nat) (hr : Rd w B A n (bvals bs)) (hn : n ≤ 1099511627776) :
    Calls Tryd.prog 31 #[.slice A n c] w fun E w' => ∃ v, E = .returned v ∧ NewBytes w bs v w' := by
  obtain ⟨i0, hi, hz0, hz1, hz2⟩ := info_parts info5s
  have hl : bs.length = n := by rw [← bvals_length]; exact hr.1
  have HL := Lib.hid hl
  clear hl
  go_enter Tryd.func31, Tryd.ntmps31
  go_wp2_with (at_builtin; refine wpList_append_rd _ rfl _ _ 22 rfl w.heap.size 5 i0 (.int .u8 0) 1 Tryd.underlying22 hi hz0 hz1 hz2 rfl _ _ _ rfl (World.ownsRow_nil _ _ _ _) B A n c (bvals bs) rfl hr bvals_one (by omega) (by unfold maxLen; omega) (Nat.le_refl _) ?_; intro v' w1 ha)
  go_ret
  have hb := ha.below (Below.refl _ _) (World.ownsRow_nil _ _ _ _) (Nat.le_refl _)
  have ho := ha.own
  simp only [Nat.zero_add, List.nil_append] at ho
  refine ⟨v', rfl, ?_, hb⟩
  rw [HL.out]
  exact ho

theorem clone_any (g o n c : Nat) (bs : List UInt8) (w : World) (B : Nat) (hB : B ≤ w.heap.size) (hr : Rd w B (some ⟨g, o, none⟩) n (bvals bs)) (hn : n ≤ 1099511627776) :
    Calls Tryd.prog 23 #[.slice (some ⟨g, o, none⟩) n c] w fun E w' => ∃ v, E = .returned v ∧ NewBytes w bs v w' := by
  obtain ⟨i0, hi, hz0, hz1, hz2⟩ := info_parts info5s
  have hl : bs.length = n := by rw [← bvals_length]; exact hr.1
  have HL := Lib.hid hl
  clear hl
  have hne := fun w => Lib.run_eql_slice_nil (P := Tryd.prog) w 22 5 (some ⟨g, o, none⟩) n c 0 0 Tryd.underlying22
  go_enter Tryd.func23, Tryd.ntmps23
  go_wp2_with (at_builtin; refine wpList_append_rd _ rfl _ _ 22 rfl w.heap.size 5 i0 (.int .u8 0) 1 Tryd.underlying22 hi hz0 hz1 hz2 rfl (.slice (some ⟨w.heap.size, 0, none⟩) 0 0) 0 [] rfl (World.ownsRow_made w #[] 0 (Nat.le_refl _) (by unfold maxLen; omega) rfl) B _ n c (bvals bs) rfl (hr.alloc hB _) bvals_one (by omega) (by unfold maxLen; omega) (by simp) ?_; intro v' w1 ha)
  go_ret
  have hb := ha.below ((Below.refl _ _).alloc (Nat.le_refl _) _) (World.ownsRow_made w #[] 0 (Nat.le_refl _) (by unfold maxLen; omega) rfl) (by simp)
  have ho := ha.own
  simp only [Nat.zero_add, List.nil_append] at ho
  refine ⟨v', rfl, ?_, hb⟩
  rw [HL.out]
  exact ho

theorem clone_all (A : Option Addr) (n c : Nat) (bs : List UInt8) (w : World) (B : Nat) (hB : B ≤ w.heap.size) (hr : Rd w B A n (bvals bs)) (hn : n ≤ 1099511627776) :
    Calls Tryd.prog 23 #[.slice A n c] w fun E w' => ∃ v, E = .returned v ∧ NewBytes w bs v w' := by
  rcases A with _ | ad
  · have h0 : n = 0 := by
      rcases Nat.eq_zero_or_pos n with h | h
      · exact h
      · obtain ⟨g, o, he, _⟩ := hr.2 h
        cases he
    subst h0
    have hbs : bs = [] := by have := hr.1; rw [bvals_length] at this; exact List.eq_nil_of_length_eq_zero this
    subst hbs
    have hne := fun w => Lib.run_eql_slice_nil (P := Tryd.prog) w 22 5 none 0 c 0 0 Tryd.underlying22
    go_enter Tryd.func23, Tryd.ntmps23
    go_wp2_with fail
    go_ret
    exact ⟨_, rfl, World.ownsRow_nil _ _ _ _, Below.refl _ _⟩
  · rcases Nat.eq_zero_or_pos n with h | h
    · subst h
      have hbs : bs = [] := by have := hr.1; rw [bvals_length] at this; exact List.eq_nil_of_length_eq_zero this
      subst hbs
      obtain ⟨i0, hi, hz0, hz1, hz2⟩ := info_parts info5s
      have hne := fun w => Lib.run_eql_slice_nil (P := Tryd.prog) w 22 5 (some ad) 0 c 0 0 Tryd.underlying22
      have hra : Rd (w.alloc (.cells #[] 5)) B (some ad) 0 [] := ⟨rfl, fun h => absurd h (by omega)⟩
      go_enter Tryd.func23, Tryd.ntmps23
      go_wp2_with (at_builtin; refine wpList_append_rd _ rfl _ _ 22 rfl w.heap.size 5 i0 (.int .u8 0) 1 Tryd.underlying22 hi hz0 hz1 hz2 rfl (.slice (some ⟨w.heap.size, 0, none⟩) 0 0) 0 [] rfl (World.ownsRow_made w #[] 0 (Nat.le_refl _) (by unfold maxLen; omega) rfl) B _ 0 c [] rfl hra (by simp) (by omega) (by unfold maxLen; omega) (by simp) ?_; intro v' w1 ha)
      go_ret
      have hb := ha.below ((Below.refl _ _).alloc (Nat.le_refl _) _) (World.ownsRow_made w #[] 0 (Nat.le_refl _) (by unfold maxLen; omega) rfl) (by simp)
      have ho := ha.own
      simp only [Nat.zero_add, List.nil_append] at ho
      exact ⟨v', rfl, ho, hb⟩
    · obtain ⟨g, o, he, _⟩ := hr.2 h
      injection he with he
      subst he
      exact clone_any g o n c bs w B hB hr hn

/-- Slices handed over in a slice of slices, each short enough. -/
def Handed (w : World) (g : Nat) (l : List (Option Addr × Nat × Nat)) : Prop :=
  ∀ j x, l[j]? = some x → w.cell? ⟨g, j, none⟩ = some (.slice x.1 x.2.1 x.2.2)

set_option maxHeartbeats 1000000 in
theorem areTexts_ok (g k c : Nat) (l : List (Option Addr × Nat × Nat)) (w : World) (hk : l.length = k) (hk8 : k ≤ 8) (hl : Handed w g l) (hs : ∀ x ∈ l, x.2.1 ≤ 4096) :
    Calls Tryd.prog 41 #[.slice (some ⟨g, 0, none⟩) k c] w fun E w' => E = .returned (.bool true) ∧ w = w' := by
  have HK := Lib.hid hk
  have HS := Lib.hid hs
  have HL := Lib.hid hl
  clear hk hs hl
  go_enter Tryd.func41, Tryd.ntmps41
  go_wp2_with fail
  go_loop [4, 7] (fun _ i => ∃ j : Nat, j ≤ k ∧ i = .int .i64 j) (fun _ i => k - (intOf i).toNat)
  case atStart => exact ⟨0, Nat.zero_le _, rfl⟩
  case round =>
    obtain ⟨j, hj, rfl⟩ := hrel
    by_cases hlt : j < k
    · obtain ⟨x, hx⟩ : ∃ x, l[j]? = some x := ⟨_, List.getElem?_eq_getElem (by rw [HK.out]; omega)⟩
      have hc := HL.out j x hx
      have hle := HS.out x (List.mem_of_getElem? hx)
      obtain ⟨A, n, d⟩ := x
      have hd : decide ((4096 : Int) < (n : Int)) = false := by simp at hle ⊢; omega
      have b1 : (j : Int) < (k : Int) := by omega
      have HX := Lib.hid hx
      clear hx hle
      go_wp2_with fail
      go_round
      case rel => exact ⟨j + 1, by omega, by go_num⟩
      case measure => simp [intOf]; omega
    · go_wp2_with fail
      go_ret
      exact ⟨rfl, rfl⟩
end Go.Proofs.YtlnifplomlnoiaaDoor
