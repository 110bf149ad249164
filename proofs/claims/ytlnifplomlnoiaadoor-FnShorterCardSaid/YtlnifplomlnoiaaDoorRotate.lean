/- A word of 32 bits turned to the left (the program's own zzRotate), as a function on whole numbers. -/
import Derived.Test.YtlnifplomlnoiaaDoorBits64
namespace Go.Proofs.YtlnifplomlnoiaaDoor
open Go.RowKit

def rotU (n : Nat) (x : Int) : Int := bits .or .u32 (IntKind.u32.wrap (x * 2 ^ n)) (x / 2 ^ (32 - n))

set_option maxHeartbeats 1000000 in
theorem rotate_any (x : Int) (n : Nat) (hn : n = 1 ∨ n = 5 ∨ n = 30) (w : World) : Calls Tryd.prog 84 #[.int .u32 x, .int .u64 (n : Int)] w fun E w' => E = .returned (.int .u32 (rotU n x)) ∧ w = w' := by
  rcases hn with rfl | rfl | rfl
  all_goals
    go_enter Tryd.func84, Tryd.ntmps84
    go_wp2_with fail
    go_ret
    exact ⟨rfl, rfl⟩
end Go.Proofs.YtlnifplomlnoiaaDoor
