/- Words of sixteen bits as whole numbers: what the model's operations on them come to; a word turned to the left. No condition beyond that each word lies below 2^16. -/
import Derived.WalkKit
import Derived.Laws.BitsAllLaws
namespace Go.Proofs.YtlnifplomlnoiaaDoor
open Go.RowKit

theorem nat_not16 (n : Nat) (h : n < 65536) : 65535 ^^^ n = 65535 - n := by
  apply Nat.eq_of_testBit_eq
  intro i
  have e : 65535 - n = 2 ^ 16 - (n + 1) := by omega
  rw [e, Nat.testBit_two_pow_sub_succ (by omega), Nat.testBit_xor, show (65535 : Nat) = 2 ^ 16 - 1 from rfl, Nat.testBit_two_pow_sub_one]
  by_cases hi : i < 16
  · simp [hi]
  · have : n.testBit i = false := Nat.testBit_lt_two_pow (Nat.lt_of_lt_of_le h (show 2 ^ 16 ≤ 2 ^ i from Nat.pow_le_pow_right (by omega) (by omega)))
    simp [hi, this]

theorem u16_not (a : Int) (h0 : 0 ≤ a) (h1 : a ≤ 65535) : bits .xor .u16 IntKind.u16.max a = 65535 - a := by
  rw [show IntKind.u16.max = 65535 from rfl]
  obtain ⟨n, rfl⟩ := Int.eq_ofNat_of_zero_le h0
  have := u16_xor_nat 65535 n (by omega) (by omega)
  rw [show ((65535 : Nat) : Int) = 65535 from rfl] at this
  rw [this, nat_not16 n (by omega)]
  omega

theorem bits_or_comm (k : IntKind) (x y : Int) : bits .or k x y = bits .or k y x := by
  simp only [bits]
  rw [BitVec.or_comm]

theorem wraps_u16 (n : Int) (h₀ : 0 ≤ n) (h₁ : n < 2 ^ 16) : IntKind.u16.wrap n = n := IntWalk.u16_in n ⟨h₀, by omega⟩

/-- A word turned by s places to the left: p = 2^s, q = 2^(16-s). -/
def rotI (p q a : Int) : Int := a * p % 65536 + a / q

theorem rot_bits (i : Nat) (p q : Int) (hp : p = 2 ^ i) (hpq : p * q = 65536) (hi : i ≤ 16) (a : Int) (hq : a / q < p) (hq0 : 0 ≤ a / q) (hm : a * p % 65536 % p = 0) :
    bits .or .u16 (a / q) (IntKind.u16.wrap (a * p)) = rotI p q a := by
  rw [IntKind.wrap_u16, bits_or_comm]
  have hw : a * p % 65536 < 65536 := Int.emod_lt_of_pos _ (by decide)
  have hw0 : 0 ≤ a * p % 65536 := Int.emod_nonneg _ (by decide)
  have hple : p ≤ 65536 := by
    subst hp
    have : (2 : Int) ^ i ≤ 2 ^ 16 := by exact_mod_cast (show 2 ^ i ≤ 2 ^ 16 from Nat.pow_le_pow_right (by omega) hi)
    omega
  exact bits_join .u16 16 (by decide) wraps_u16 i _ _ hw0 (by rw [← hp]; exact hm) (by omega) hq0 (by rw [← hp]; exact hq) (by omega)

section
variable (a : Int) (h0 : 0 ≤ a) (h1 : a ≤ 65535)
include h0 h1
theorem rot_1 : bits .or .u16 (a / 32768) (IntKind.u16.wrap (a * 2)) = rotI 2 32768 a := rot_bits 1 2 32768 rfl (by decide) (by decide) a (by omega) (by omega) (by omega)
theorem rot_2 : bits .or .u16 (a / 16384) (IntKind.u16.wrap (a * 4)) = rotI 4 16384 a := rot_bits 2 4 16384 rfl (by decide) (by decide) a (by omega) (by omega) (by omega)
theorem rot_3 : bits .or .u16 (a / 8192) (IntKind.u16.wrap (a * 8)) = rotI 8 8192 a := rot_bits 3 8 8192 rfl (by decide) (by decide) a (by omega) (by omega) (by omega)
theorem rot_5 : bits .or .u16 (a / 2048) (IntKind.u16.wrap (a * 32)) = rotI 32 2048 a := rot_bits 5 32 2048 rfl (by decide) (by decide) a (by omega) (by omega) (by omega)
theorem rot_11 : bits .or .u16 (a / 32) (IntKind.u16.wrap (a * 2048)) = rotI 2048 32 a := rot_bits 11 2048 32 rfl (by decide) (by decide) a (by omega) (by omega) (by omega)
theorem rot_13 : bits .or .u16 (a / 8) (IntKind.u16.wrap (a * 8192)) = rotI 8192 8 a := rot_bits 13 8192 8 rfl (by decide) (by decide) a (by omega) (by omega) (by omega)
theorem rot_14 : bits .or .u16 (a / 4) (IntKind.u16.wrap (a * 16384)) = rotI 16384 4 a := rot_bits 14 16384 4 rfl (by decide) (by decide) a (by omega) (by omega) (by omega)
theorem rot_15 : bits .or .u16 (a / 2) (IntKind.u16.wrap (a * 32768)) = rotI 32768 2 a := rot_bits 15 32768 2 rfl (by decide) (by decide) a (by omega) (by omega) (by omega)
/-- Turned and turned on to sixteen places: as it was. -/
theorem back_1 : rotI 32768 2 (rotI 2 32768 a) = a := by
  obtain ⟨h, l, e, b0, b1, b2, b3⟩ : ∃ h l : Int, a = 32768 * h + l ∧ 0 ≤ h ∧ h < 2 ∧ 0 ≤ l ∧ l < 32768 := ⟨a / 32768, a % 32768, by omega, by omega, by omega, by omega, by omega⟩
  have e1 : rotI 2 32768 a = 2 * l + h := by unfold rotI; omega
  rw [e1]
  unfold rotI
  have e2 : (2 * l + h) * 32768 = 65536 * l + 32768 * h := by omega
  have e3 : (2 * l + h) / 2 = l := by omega
  have e4 : (65536 * l + 32768 * h) % 65536 = 32768 * h := by omega
  rw [e2, e3, e4]
  omega
theorem back_2 : rotI 16384 4 (rotI 4 16384 a) = a := by
  obtain ⟨h, l, e, b0, b1, b2, b3⟩ : ∃ h l : Int, a = 16384 * h + l ∧ 0 ≤ h ∧ h < 4 ∧ 0 ≤ l ∧ l < 16384 := ⟨a / 16384, a % 16384, by omega, by omega, by omega, by omega, by omega⟩
  have e1 : rotI 4 16384 a = 4 * l + h := by unfold rotI; omega
  rw [e1]
  unfold rotI
  have e2 : (4 * l + h) * 16384 = 65536 * l + 16384 * h := by omega
  have e3 : (4 * l + h) / 4 = l := by omega
  have e4 : (65536 * l + 16384 * h) % 65536 = 16384 * h := by omega
  rw [e2, e3, e4]
  omega
theorem back_3 : rotI 8192 8 (rotI 8 8192 a) = a := by
  obtain ⟨h, l, e, b0, b1, b2, b3⟩ : ∃ h l : Int, a = 8192 * h + l ∧ 0 ≤ h ∧ h < 8 ∧ 0 ≤ l ∧ l < 8192 := ⟨a / 8192, a % 8192, by omega, by omega, by omega, by omega, by omega⟩
  have e1 : rotI 8 8192 a = 8 * l + h := by unfold rotI; omega
  rw [e1]
  unfold rotI
  have e2 : (8 * l + h) * 8192 = 65536 * l + 8192 * h := by omega
  have e3 : (8 * l + h) / 8 = l := by omega
  have e4 : (65536 * l + 8192 * h) % 65536 = 8192 * h := by omega
  rw [e2, e3, e4]
  omega
theorem back_5 : rotI 2048 32 (rotI 32 2048 a) = a := by
  obtain ⟨h, l, e, b0, b1, b2, b3⟩ : ∃ h l : Int, a = 2048 * h + l ∧ 0 ≤ h ∧ h < 32 ∧ 0 ≤ l ∧ l < 2048 := ⟨a / 2048, a % 2048, by omega, by omega, by omega, by omega, by omega⟩
  have e1 : rotI 32 2048 a = 32 * l + h := by unfold rotI; omega
  rw [e1]
  unfold rotI
  have e2 : (32 * l + h) * 2048 = 65536 * l + 2048 * h := by omega
  have e3 : (32 * l + h) / 32 = l := by omega
  have e4 : (65536 * l + 2048 * h) % 65536 = 2048 * h := by omega
  rw [e2, e3, e4]
  omega
theorem bound_1 : 0 ≤ rotI 2 32768 a ∧ rotI 2 32768 a ≤ 65535 := by unfold rotI; omega
theorem bound_2 : 0 ≤ rotI 4 16384 a ∧ rotI 4 16384 a ≤ 65535 := by unfold rotI; omega
theorem bound_3 : 0 ≤ rotI 8 8192 a ∧ rotI 8 8192 a ≤ 65535 := by unfold rotI; omega
theorem bound_5 : 0 ≤ rotI 32 2048 a ∧ rotI 32 2048 a ≤ 65535 := by unfold rotI; omega
theorem bound_11 : 0 ≤ rotI 2048 32 a ∧ rotI 2048 32 a ≤ 65535 := by unfold rotI; omega
theorem bound_13 : 0 ≤ rotI 8192 8 a ∧ rotI 8192 8 a ≤ 65535 := by unfold rotI; omega
theorem bound_14 : 0 ≤ rotI 16384 4 a ∧ rotI 16384 4 a ≤ 65535 := by unfold rotI; omega
theorem bound_15 : 0 ≤ rotI 32768 2 a ∧ rotI 32768 2 a ≤ 65535 := by unfold rotI; omega
end
end Go.Proofs.YtlnifplomlnoiaaDoor
