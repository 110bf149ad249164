/- spec.numbers: the table in new memory. -/
import Derived.Test.YtlnifplomlnoiaaDoorPiTab
import Derived.Great.BuildSlice
namespace Go.Proofs.YtlnifplomlnoiaaDoor
open Go.RowKit

theorem info3 : (Tryd.prog.info? 3).map (fun i => (i.zero, i.size, i.bytes)) = some (some (.int .i64 0), 1, 8) := by kernel_rfl
theorem underlying79 : Tryd.prog.underlying 79 = some (.slice 3) := by kernel_rfl
def piNats : List Nat := (List.range 256).map piT
theorem piNats_get {j : Nat} (h : j < 256) : piNats.getD j 0 = piT j := by
  simp [piNats, List.getD_eq_getElem?_getD, h]
theorem piNats_vals : piInts.map (Value.int .i64) = nvals .i64 piNats := by kernel_rfl

set_option maxRecDepth 1000000 in
set_option maxHeartbeats 4000000 in
theorem numbers_any (w : World) :
    Calls Tryd.prog 54 #[] w fun E w' => ∃ g, E = .returned (.slice (some ⟨g, 0, none⟩) 256 256) ∧ w.heap.size ≤ g ∧ Blk w' g 3 (nvals .i64 piNats) ∧ Below w.heap.size w w' := by
  obtain ⟨i0, hi, hz0, hz1, hz2⟩ := info_parts info3
  go_enter Tryd.func54, Tryd.ntmps54
  go_wp2_with (refine wpList_buildFlat rfl 79 3 256 _ rfl .i64 piInts underlying79 (by rw [hi]; simp [hz1]) (by rw [hi]; simp [hz0]) pi_length.symm (by omega) (by omega) (by kernel_rfl) ?_)
  go_ret
  refine ⟨_, rfl, Nat.le_refl _, ?_, (Below.refl _ _).alloc (Nat.le_refl _) _⟩
  rw [← piNats_vals]
  exact heap_alloc_new w _
end Go.Proofs.YtlnifplomlnoiaaDoor
