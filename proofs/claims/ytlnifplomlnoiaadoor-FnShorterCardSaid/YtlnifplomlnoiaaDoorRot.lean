/- rotl16, at each count that the cipher uses: the word turned to the left. -/
import Derived.Test.YtlnifplomlnoiaaDoorBase
import Derived.Test.YtlnifplomlnoiaaDoorProg
import Derived.Test.YtlnifplomlnoiaaDoorW16
namespace Go.Proofs.YtlnifplomlnoiaaDoor
open Go.RowKit

/-- A turned word, its value told aside. -/
def Turned (p q a : Int) (w : World) (E : Ending) (w' : World) : Prop := ∃ y : Int, E = .returned (.int .u16 y) ∧ 0 ≤ y ∧ y ≤ 65535 ∧ Hid (y = rotI p q a) ∧ w = w'

theorem rotl_1 (a : Int) (w : World) (h0 : 0 ≤ a) (h1 : a ≤ 65535) : Calls Tryd.prog 126 #[.int .u16 a, .int .u64 1] w (Turned 2 32768 a w) := by
  have e := rot_1 a
  have b0 := (bound_1 a h0 h1).1
  have b1 := (bound_1 a h0 h1).2
  go_enter Tryd.func126, Tryd.ntmps126
  go_wp2_with fail
  go_ret
  exact ⟨_, rfl, b0, b1, rfl, rfl⟩
theorem rotl_2 (a : Int) (w : World) (h0 : 0 ≤ a) (h1 : a ≤ 65535) : Calls Tryd.prog 126 #[.int .u16 a, .int .u64 2] w (Turned 4 16384 a w) := by
  have e := rot_2 a
  have b0 := (bound_2 a h0 h1).1
  have b1 := (bound_2 a h0 h1).2
  go_enter Tryd.func126, Tryd.ntmps126
  go_wp2_with fail
  go_ret
  exact ⟨_, rfl, b0, b1, rfl, rfl⟩
theorem rotl_3 (a : Int) (w : World) (h0 : 0 ≤ a) (h1 : a ≤ 65535) : Calls Tryd.prog 126 #[.int .u16 a, .int .u64 3] w (Turned 8 8192 a w) := by
  have e := rot_3 a
  have b0 := (bound_3 a h0 h1).1
  have b1 := (bound_3 a h0 h1).2
  go_enter Tryd.func126, Tryd.ntmps126
  go_wp2_with fail
  go_ret
  exact ⟨_, rfl, b0, b1, rfl, rfl⟩
theorem rotl_5 (a : Int) (w : World) (h0 : 0 ≤ a) (h1 : a ≤ 65535) : Calls Tryd.prog 126 #[.int .u16 a, .int .u64 5] w (Turned 32 2048 a w) := by
  have e := rot_5 a
  have b0 := (bound_5 a h0 h1).1
  have b1 := (bound_5 a h0 h1).2
  go_enter Tryd.func126, Tryd.ntmps126
  go_wp2_with fail
  go_ret
  exact ⟨_, rfl, b0, b1, rfl, rfl⟩
theorem rotl_11 (a : Int) (w : World) (h0 : 0 ≤ a) (h1 : a ≤ 65535) : Calls Tryd.prog 126 #[.int .u16 a, .int .u64 11] w (Turned 2048 32 a w) := by
  have e := rot_11 a
  have b0 := (bound_11 a h0 h1).1
  have b1 := (bound_11 a h0 h1).2
  go_enter Tryd.func126, Tryd.ntmps126
  go_wp2_with fail
  go_ret
  exact ⟨_, rfl, b0, b1, rfl, rfl⟩
theorem rotl_13 (a : Int) (w : World) (h0 : 0 ≤ a) (h1 : a ≤ 65535) : Calls Tryd.prog 126 #[.int .u16 a, .int .u64 13] w (Turned 8192 8 a w) := by
  have e := rot_13 a
  have b0 := (bound_13 a h0 h1).1
  have b1 := (bound_13 a h0 h1).2
  go_enter Tryd.func126, Tryd.ntmps126
  go_wp2_with fail
  go_ret
  exact ⟨_, rfl, b0, b1, rfl, rfl⟩
theorem rotl_14 (a : Int) (w : World) (h0 : 0 ≤ a) (h1 : a ≤ 65535) : Calls Tryd.prog 126 #[.int .u16 a, .int .u64 14] w (Turned 16384 4 a w) := by
  have e := rot_14 a
  have b0 := (bound_14 a h0 h1).1
  have b1 := (bound_14 a h0 h1).2
  go_enter Tryd.func126, Tryd.ntmps126
  go_wp2_with fail
  go_ret
  exact ⟨_, rfl, b0, b1, rfl, rfl⟩
theorem rotl_15 (a : Int) (w : World) (h0 : 0 ≤ a) (h1 : a ≤ 65535) : Calls Tryd.prog 126 #[.int .u16 a, .int .u64 15] w (Turned 32768 2 a w) := by
  have e := rot_15 a
  have b0 := (bound_15 a h0 h1).1
  have b1 := (bound_15 a h0 h1).2
  go_enter Tryd.func126, Tryd.ntmps126
  go_wp2_with fail
  go_ret
  exact ⟨_, rfl, b0, b1, rfl, rfl⟩
end Go.Proofs.YtlnifplomlnoiaaDoor
