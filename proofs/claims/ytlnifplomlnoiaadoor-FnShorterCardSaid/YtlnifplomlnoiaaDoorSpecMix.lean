/- spec.shift and spec.mixed. -/
import Derived.Test.YtlnifplomlnoiaaDoorBits64
import Derived.Test.YtlnifplomlnoiaaDoorArrays
import Derived.Test.YtlnifplomlnoiaaDoorRc2Fn
import Derived.BigQuiet
import Derived.Laws.DeepNot64
namespace Go.Proofs.YtlnifplomlnoiaaDoor
open Go.RowKit

def sh : Nat → Nat
  | 0 => 1
  | 1 => 2
  | 2 => 3
  | _ => 5
set_option maxHeartbeats 1000000 in
theorem shift_any (i : Nat) (hi : i < 4) (w : World) : Calls Tryd.prog 34 #[.int .i64 (i : Int)] w fun E w' => E = .returned (.int .i64 (sh i : Int)) ∧ Below w.heap.size w w' := by
  have h : i = 0 ∨ i = 1 ∨ i = 2 ∨ i = 3 := by omega
  rcases h with rfl | rfl | rfl | rfl
  all_goals
    go_enter Tryd.func34, Tryd.ntmps34
    go_wp2_with fail
    go_ret
    exact ⟨rfl, (Below.refl _ _).alloc (Nat.le_refl _) _⟩

/-- Four words as the specification's array. -/
def rvals : S4 → List Value
  | (a, b, c, d) => [.int .i64 a, .int .i64 b, .int .i64 c, .int .i64 d]
/-- What is added to the i-th word. -/
def addAt (s : S4) (i : Nat) (k : Int) : Int :=
  match s, i with
  | (_, b, c, d), 0 => addI b c d k
  | (a, _, c, d), 1 => addI c d a k
  | (a, b, _, d), 2 => addI d a b k
  | (a, b, c, _), _ => addI a b c k

theorem and64 {a b : Int} (ha : 0 ≤ a ∧ a ≤ 65535) (hb : 0 ≤ b ∧ b ≤ 65535) : bits .and .i64 a b = bits .and .u16 a b := by
  obtain ⟨x, rfl⟩ : ∃ x : Nat, a = (x : Int) := ⟨a.toNat, by omega⟩
  obtain ⟨y, rfl⟩ : ∃ y : Nat, b = (y : Int) := ⟨b.toNat, by omega⟩
  rw [i64_and_nat _ _ (by omega) (by omega), u16_and_nat _ _ (by omega) (by omega)]
theorem and64_le {a b : Int} (ha : 0 ≤ a ∧ a ≤ 65535) (hb : 0 ≤ b ∧ b ≤ 65535) : 0 ≤ bits .and .u16 a b ∧ bits .and .u16 a b ≤ 65535 := by
  obtain ⟨x, rfl⟩ : ∃ x : Nat, a = (x : Int) := ⟨a.toNat, by omega⟩
  obtain ⟨y, rfl⟩ : ∃ y : Nat, b = (y : Int) := ⟨b.toNat, by omega⟩
  rw [u16_and_nat _ _ (by omega) (by omega)]
  have := @Nat.and_le_left x y
  omega

theorem i64_and65535 (n : Int) : bits .and .i64 n 65535 = n % 65536 := by
  have h127 : (BitVec.ofInt 64 65535).toNat = 2 ^ 16 - 1 := by decide
  have key : (BitVec.ofInt 64 n &&& BitVec.ofInt 64 65535).toNat = (n % ((2 ^ 64 : Nat) : Int)).toNat % 2 ^ 16 := by
    rw [BitVec.toNat_and, BitVec.toNat_ofInt, h127, Nat.and_two_pow_sub_one_eq_mod]
  show IntKind.i64.wrap ((BitVec.ofInt 64 n &&& BitVec.ofInt 64 65535).toNat : Nat) = n % 65536
  rw [key, IntKind.wrap_i64]
  omega
theorem i64_and63 (n : Int) : bits .and .i64 n 63 = n % 64 := by
  have h127 : (BitVec.ofInt 64 63).toNat = 2 ^ 6 - 1 := by decide
  have key : (BitVec.ofInt 64 n &&& BitVec.ofInt 64 63).toNat = (n % ((2 ^ 64 : Nat) : Int)).toNat % 2 ^ 6 := by
    rw [BitVec.toNat_and, BitVec.toNat_ofInt, h127, Nat.and_two_pow_sub_one_eq_mod]
  show IntKind.i64.wrap ((BitVec.ofInt 64 n &&& BitVec.ofInt 64 63).toNat : Nat) = n % 64
  rw [key, IntKind.wrap_i64]
  omega
theorem not64 {d : Int} (hd : 0 ≤ d ∧ d ≤ 65535) : bits .and .i64 (bits .xor .i64 (-1) d) 65535 = 65535 - d := by
  obtain ⟨y, rfl⟩ : ∃ y : Nat, d = (y : Int) := ⟨d.toNat, by omega⟩
  rw [i64_not y (by omega), i64_and65535]
  omega

set_option maxHeartbeats 1000000 in
theorem mixed0 (a b c d k : Int) (w : World) (_ha : 0 ≤ a ∧ a ≤ 65535) (hb : 0 ≤ b ∧ b ≤ 65535) (hc : 0 ≤ c ∧ c ≤ 65535) (hd : 0 ≤ d ∧ d ≤ 65535) (hk : 0 ≤ k ∧ k ≤ 65535) :
    Calls Tryd.prog 35 #[.agg #[.int .i64 a, .int .i64 b, .int .i64 c, .int .i64 d], .int .i64 (0 : Int), .int .i64 k] w fun E w' => E = .returned (.int .i64 (addI b c d k)) ∧ Below w.heap.size w w' := by
  have n1 := not64 hd
  have a1 := and64 hd hc
  have a2 := and64 (a := 65535 - d) (b := b) (by omega) hb
  have l1 := and64_le hd hc
  have l2 := and64_le (a := 65535 - d) (b := b) (by omega) hb
  obtain ⟨x, hx⟩ : ∃ x, bits .and .u16 d c = x := ⟨_, rfl⟩
  obtain ⟨y, hy⟩ : ∃ y, bits .and .u16 (65535 - d) b = y := ⟨_, rfl⟩
  rw [hx] at a1 l1
  rw [hy] at a2 l2
  have e : addI b c d k = k + x + y := by rw [addI, hx, hy]
  rw [e]
  have w1 : wrap64 (k + x) = k + x := by unfold wrap64; omega
  have w2 : wrap64 (k + x + y) = k + x + y := by unfold wrap64; omega
  clear hx hy e
  go_enter Tryd.func35, Tryd.ntmps35
  go_wp2_with fail
  go_quiet (fail)
  go_wp2_with fail
  all_goals
    go_ret
    exact ⟨rfl, below_drewN ((Below.refl _ _).alloc (Nat.le_refl _) _) _⟩
set_option maxHeartbeats 1000000 in
theorem mixed1 (a b c d k : Int) (w : World) (ha : 0 ≤ a ∧ a ≤ 65535) (_hb : 0 ≤ b ∧ b ≤ 65535) (hc : 0 ≤ c ∧ c ≤ 65535) (hd : 0 ≤ d ∧ d ≤ 65535) (hk : 0 ≤ k ∧ k ≤ 65535) :
    Calls Tryd.prog 35 #[.agg #[.int .i64 a, .int .i64 b, .int .i64 c, .int .i64 d], .int .i64 (1 : Int), .int .i64 k] w fun E w' => E = .returned (.int .i64 (addI c d a k)) ∧ Below w.heap.size w w' := by
  have n1 := not64 ha
  have a1 := and64 ha hd
  have a2 := and64 (a := 65535 - a) (b := c) (by omega) hc
  have l1 := and64_le ha hd
  have l2 := and64_le (a := 65535 - a) (b := c) (by omega) hc
  obtain ⟨x, hx⟩ : ∃ x, bits .and .u16 a d = x := ⟨_, rfl⟩
  obtain ⟨y, hy⟩ : ∃ y, bits .and .u16 (65535 - a) c = y := ⟨_, rfl⟩
  rw [hx] at a1 l1
  rw [hy] at a2 l2
  have e : addI c d a k = k + x + y := by rw [addI, hx, hy]
  rw [e]
  have w1 : wrap64 (k + x) = k + x := by unfold wrap64; omega
  have w2 : wrap64 (k + x + y) = k + x + y := by unfold wrap64; omega
  clear hx hy e
  go_enter Tryd.func35, Tryd.ntmps35
  go_wp2_with fail
  go_quiet (fail)
  go_wp2_with fail
  all_goals
    go_ret
    exact ⟨rfl, below_drewN ((Below.refl _ _).alloc (Nat.le_refl _) _) _⟩
set_option maxHeartbeats 1000000 in
theorem mixed2 (a b c d k : Int) (w : World) (ha : 0 ≤ a ∧ a ≤ 65535) (hb : 0 ≤ b ∧ b ≤ 65535) (_hc : 0 ≤ c ∧ c ≤ 65535) (hd : 0 ≤ d ∧ d ≤ 65535) (hk : 0 ≤ k ∧ k ≤ 65535) :
    Calls Tryd.prog 35 #[.agg #[.int .i64 a, .int .i64 b, .int .i64 c, .int .i64 d], .int .i64 (2 : Int), .int .i64 k] w fun E w' => E = .returned (.int .i64 (addI d a b k)) ∧ Below w.heap.size w w' := by
  have n1 := not64 hb
  have a1 := and64 hb ha
  have a2 := and64 (a := 65535 - b) (b := d) (by omega) hd
  have l1 := and64_le hb ha
  have l2 := and64_le (a := 65535 - b) (b := d) (by omega) hd
  obtain ⟨x, hx⟩ : ∃ x, bits .and .u16 b a = x := ⟨_, rfl⟩
  obtain ⟨y, hy⟩ : ∃ y, bits .and .u16 (65535 - b) d = y := ⟨_, rfl⟩
  rw [hx] at a1 l1
  rw [hy] at a2 l2
  have e : addI d a b k = k + x + y := by rw [addI, hx, hy]
  rw [e]
  have w1 : wrap64 (k + x) = k + x := by unfold wrap64; omega
  have w2 : wrap64 (k + x + y) = k + x + y := by unfold wrap64; omega
  clear hx hy e
  go_enter Tryd.func35, Tryd.ntmps35
  go_wp2_with fail
  go_quiet (fail)
  go_wp2_with fail
  all_goals
    go_ret
    exact ⟨rfl, below_drewN ((Below.refl _ _).alloc (Nat.le_refl _) _) _⟩
set_option maxHeartbeats 1000000 in
theorem mixed3 (a b c d k : Int) (w : World) (ha : 0 ≤ a ∧ a ≤ 65535) (hb : 0 ≤ b ∧ b ≤ 65535) (hc : 0 ≤ c ∧ c ≤ 65535) (_hd : 0 ≤ d ∧ d ≤ 65535) (hk : 0 ≤ k ∧ k ≤ 65535) :
    Calls Tryd.prog 35 #[.agg #[.int .i64 a, .int .i64 b, .int .i64 c, .int .i64 d], .int .i64 (3 : Int), .int .i64 k] w fun E w' => E = .returned (.int .i64 (addI a b c k)) ∧ Below w.heap.size w w' := by
  have n1 := not64 hc
  have a1 := and64 hc hb
  have a2 := and64 (a := 65535 - c) (b := a) (by omega) ha
  have l1 := and64_le hc hb
  have l2 := and64_le (a := 65535 - c) (b := a) (by omega) ha
  obtain ⟨x, hx⟩ : ∃ x, bits .and .u16 c b = x := ⟨_, rfl⟩
  obtain ⟨y, hy⟩ : ∃ y, bits .and .u16 (65535 - c) a = y := ⟨_, rfl⟩
  rw [hx] at a1 l1
  rw [hy] at a2 l2
  have e : addI a b c k = k + x + y := by rw [addI, hx, hy]
  rw [e]
  have w1 : wrap64 (k + x) = k + x := by unfold wrap64; omega
  have w2 : wrap64 (k + x + y) = k + x + y := by unfold wrap64; omega
  clear hx hy e
  go_enter Tryd.func35, Tryd.ntmps35
  go_wp2_with fail
  go_quiet (fail)
  go_wp2_with fail
  all_goals
    go_ret
    exact ⟨rfl, below_drewN ((Below.refl _ _).alloc (Nat.le_refl _) _) _⟩

theorem mixed_any (s : S4) (hs : Ok4 s) (i : Nat) (hi : i < 4) (k : Int) (hk : 0 ≤ k ∧ k ≤ 65535) (w : World) :
    Calls Tryd.prog 35 #[.agg (rvals s).toArray, .int .i64 (i : Int), .int .i64 k] w fun E w' => E = .returned (.int .i64 (addAt s i k)) ∧ Below w.heap.size w w' := by
  obtain ⟨a, b, c, d⟩ := s
  have h : i = 0 ∨ i = 1 ∨ i = 2 ∨ i = 3 := by omega
  rcases h with rfl | rfl | rfl | rfl
  · exact mixed0 a b c d k w hs.1 hs.2.1 hs.2.2.1 hs.2.2.2 hk
  · exact mixed1 a b c d k w hs.1 hs.2.1 hs.2.2.1 hs.2.2.2 hk
  · exact mixed2 a b c d k w hs.1 hs.2.1 hs.2.2.1 hs.2.2.2 hk
  · exact mixed3 a b c d k w hs.1 hs.2.1 hs.2.2.1 hs.2.2.2 hk
end Go.Proofs.YtlnifplomlnoiaaDoor
