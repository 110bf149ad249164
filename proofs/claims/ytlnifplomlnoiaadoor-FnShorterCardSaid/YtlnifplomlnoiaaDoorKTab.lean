/- What a row's first world holds: the library's table of SHA-256 is 64 numbers, whatever they are; a world for the witnesses (the table of SHA-512's rounds as its text lays it). -/
import Derived.Test.YtlnifplomlnoiaaDoorRows
import Derived.Test.YtlnifplomlnoiaaDoorProg
import Derived.ShapedOpen
import Derived.ProofKit
import Derived.OpenShut
import Derived.Deep.DeepHandedRow
import Derived.Lib.LaidTab
namespace Go.Proofs.YtlnifplomlnoiaaDoor
open Go.RowKit Go.ChangeShapes Go.WideShapes Go.ChangeAt

theorem kZero : ((begin Tryd.prog (fun _ _ => 0) default).world.heap[7]?).bind Obj.row? = some ((List.replicate 64 (Value.int .u32 0)).toArray, 106) := by kernel_rfl
theorem kTypes : Tryd.prog.cellTypes Tryd.prog.depth 106 = some (List.replicate 64 99) := by kernel_rfl
theorem kUnder : Tryd.prog.underlying 99 = some (.int .u32) := by kernel_rfl
theorem kGlobals : 7 < Tryd.prog.globals.size := of_decide_eq_true (by kernel_rfl)
theorem kBuild : Tryd.prog.buildable 106 = true := by kernel_rfl

/-- The number that a cell holds. -/
def numIn : Option Value → Int
  | some (.int _ z) => z
  | _ => 0
set_option maxRecDepth 100000 in
theorem kAt_of_shape {W : World} (h : W.ShapedOpen Tryd.prog) : (∃ K : Nat → Int, ∀ i, i < 64 → W.cell? ⟨7, i, none⟩ = some (.int .u32 (K i))) ∧ 7 < W.heap.size := by
  obtain ⟨cs, hh, hs, hr⟩ := h.1 7 _ 106 kGlobals kZero
  obtain ⟨ts, hts, _, hall⟩ := hr kBuild
  rw [kTypes] at hts
  cases hts
  have hs' : cs.size = 64 := by simpa using hs
  have hlt : 7 < W.heap.size := (Array.getElem?_eq_some_iff.1 hh).1
  refine ⟨⟨fun i => numIn cs[i]?, fun i hi => ?_⟩, hlt⟩
  have hci : cs[i]? = some (cs[i]'(by omega)) := Array.getElem?_eq_getElem (by omega)
  obtain ⟨u, hu', hok⟩ := hall i (cs[i]'(by omega)) hci
  have hu : u = 99 := by
    rw [List.length_replicate, List.getElem?_replicate, if_pos (by omega)] at hu'
    exact (Option.some.inj hu').symm
  subst hu
  have hcell : W.cell? ⟨7, i, none⟩ = some (cs[i]'(by omega)) := by simp [World.cell?, hh, hci]
  rw [hcell]
  show _ = some (Value.int .u32 (numIn cs[i]?))
  rw [hci]
  unfold Cell.ok at hok
  rw [kUnder] at hok
  cases hv : cs[i]'(by omega) with
  | int k z => rw [hv] at hok; simp at hok; simp [hok, numIn]
  | _ => rw [hv] at hok; simp at hok

/-- The numbers of SHA-512's rounds, off the datum that the rows list. -/
def rInts : List Int :=
  match (Rows.laid_loop_example_pub_g03153_pub_pkcs12_zzRounds512 : DataW Unit) with
  | .agg l => l.map fun d => match d with | .lit (.int _ z) => z | _ => 0
  | _ => []
/-- A world for the witnesses: the settled one, that table holding what its text lays. -/
noncomputable def rWorld (os : Os) : World :=
  { World.holding Tryd.prog os ⟨#[], #[], []⟩ with heap := (World.holding Tryd.prog os ⟨#[], #[], []⟩).heap.modify 4 fun
      | .cells _ t frozen => .cells (rInts.map (Value.int .u64)).toArray t frozen
      | o => o }
end Go.Proofs.YtlnifplomlnoiaaDoor
