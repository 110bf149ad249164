/- The cipher's table as the rows list it: what a world that meets the list holds at the first global; a world that meets it. -/
import Derived.Test.YtlnifplomlnoiaaDoorRows
import Derived.Test.YtlnifplomlnoiaaDoorExpand
import Derived.ProofKit
import Derived.OpenShut
import Derived.Deep.DeepHandedRow
import Derived.Lib.LaidTab
namespace Go.Proofs.YtlnifplomlnoiaaDoor
open Go.RowKit Go.ChangeShapes Go.WideShapes Go.ChangeAt

/-- The table's numbers, off the datum that the rows list. -/
def piInts : List Int :=
  match (Rows.laid_loop_example_pub_g03153_pub_rc2_piTable : DataW Unit) with
  | .agg l => l.map fun d => match d with | .lit (.int _ z) => z | _ => 0
  | _ => []
def piT (j : Nat) : Nat := (piInts.getD j 0).toNat
def piLaid : List (String × DataW Unit) := [("loop.example/pub-g03153/pub/rc2.piTable", Rows.laid_loop_example_pub_g03153_pub_rc2_piTable)]
theorem pi_all : piInts.all (fun z => decide (0 ≤ z) && decide (z ≤ 255)) = true := by kernel_rfl
theorem pi_length : piInts.length = 256 := by kernel_rfl
theorem pi_laid : piLaid = [("loop.example/pub-g03153/pub/rc2.piTable", Lib.tabData .u8 piInts)] := by kernel_rfl
theorem pi_range (j : Nat) : 0 ≤ piInts.getD j 0 ∧ piInts.getD j 0 ≤ 255 := by
  rw [List.getD_eq_getElem?_getD]
  cases h : piInts[j]? with
  | none => simp
  | some z =>
    have := List.all_eq_true.1 pi_all z (List.mem_of_getElem? h)
    simpa using this
theorem piT_le (x : Nat) : piT x ≤ 255 := by
  have := pi_range x
  unfold piT
  omega

theorem gPi : Tryd.prog.globalNamed "loop.example/pub-g03153/pub/rc2.piTable" = some 0 := by kernel_rfl
theorem gPiType : (Tryd.prog.globals[0]?).map (·.type) = some 96 := by kernel_rfl
theorem cells96 : Tryd.prog.cellsOf 96 = 256 := by kernel_rfl
theorem cells5p : Tryd.prog.cellsOf 5 = 1 := by kernel_rfl
theorem underlying96 : Tryd.prog.underlying 96 = some (.array 256 5) := by kernel_rfl

theorem tab_of {W : World} (h : laidMetH Tryd.prog piLaid W) : TabAt W piT := by
  have h' : laidMet Tryd.prog [("loop.example/pub-g03153/pub/rc2.piTable", Lib.tabData .u8 piInts)] W := by
    rw [← pi_laid]
    exact h
  have ht := Lib.tabIs_of_head (rest := []) gPi gPiType underlying96 Tryd.underlying5 cells5p cells96 h'
  intro j hj
  rw [ht.cell gPi j (by rw [pi_length]; exact hj)]
  have := pi_range j
  unfold piT
  rw [Int.toNat_of_nonneg this.1]

/-- A world for the witnesses: the settled one, the table holding what its text lays. -/
noncomputable def piWorld (os : Os) : World :=
  { World.holding Tryd.prog os ⟨#[], #[], []⟩ with heap := (World.holding Tryd.prog os ⟨#[], #[], []⟩).heap.modify 0 fun
      | .cells _ t frozen => .cells (piInts.map (Value.int .u8)).toArray t frozen
      | o => o }
end Go.Proofs.YtlnifplomlnoiaaDoor
