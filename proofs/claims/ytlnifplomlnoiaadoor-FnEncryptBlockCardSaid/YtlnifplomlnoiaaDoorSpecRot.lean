/- The turning of a word, in ints. No program. -/
import Derived.Test.YtlnifplomlnoiaaDoorSpecFn
namespace Go.Proofs.YtlnifplomlnoiaaDoor

theorem or_add (e a b : Nat) (h : b < 2 ^ e) : a * 2 ^ e ||| b = a * 2 ^ e + b := by
  rw [Nat.mul_comm, ← Nat.two_pow_add_eq_or_of_lt h]

theorem rot_facts (i : Nat) (hi : i < 4) (x : Int) (h0 : 0 ≤ x) (h1 : x ≤ 65535) :
    ∃ (e f : Nat) (u t r : Int), sh i = e ∧ e ≤ 5 ∧ (16 : Int) - (e : Int) = (f : Int) ∧ f ≤ 16 ∧ x * 2 ^ e = u ∧ 0 ≤ u ∧ u ≤ 2097152 ∧ x / 2 ^ f = t ∧ bits .or .i64 u t = r ∧ r % 65536 = rotAt i x := by
  obtain ⟨n, rfl⟩ : ∃ n : Nat, x = (n : Int) := ⟨x.toNat, by omega⟩
  have key : ∀ e f : Nat, 1 ≤ e → e ≤ 5 → e + f = 16 → ∃ r : Int, bits .or .i64 ((n : Int) * 2 ^ e) ((n : Int) / 2 ^ f) = r ∧ r = (n : Int) * 2 ^ e + (n : Int) / 2 ^ f := by
    intro e f he1 he5 hef
    refine ⟨_, rfl, ?_⟩
    have hp : (n : Int) * 2 ^ e = ((n * 2 ^ e : Nat) : Int) := by push_cast; rfl
    have hq : (n : Int) / 2 ^ f = ((n / 2 ^ f : Nat) : Int) := by push_cast; rfl
    have hb : n / 2 ^ f < 2 ^ e := by
      rw [Nat.div_lt_iff_lt_mul (Nat.two_pow_pos f), ← Nat.pow_add, hef]
      omega
    have h2 : 2 ^ e ≤ 2 ^ 5 := Nat.pow_le_pow_right (by omega) he5
    have h3 : n * 2 ^ e ≤ 65535 * 2 ^ 5 := Nat.mul_le_mul (by omega) h2
    rw [hp, hq, i64_or_nat _ _ (by omega) (by omega), or_add e n _ hb]
    push_cast
    rfl
  have h : i = 0 ∨ i = 1 ∨ i = 2 ∨ i = 3 := by omega
  rcases h with rfl | rfl | rfl | rfl
  · obtain ⟨r, h1', h2'⟩ := key 1 15 (by omega) (by omega) rfl
    exact ⟨1, 15, _, _, r, rfl, by omega, by omega, by omega, rfl, by omega, by omega, rfl, h1', by rw [h2']; simp only [rotAt, rotI]; omega⟩
  · obtain ⟨r, h1', h2'⟩ := key 2 14 (by omega) (by omega) rfl
    exact ⟨2, 14, _, _, r, rfl, by omega, by omega, by omega, rfl, by omega, by omega, rfl, h1', by rw [h2']; simp only [rotAt, rotI]; omega⟩
  · obtain ⟨r, h1', h2'⟩ := key 3 13 (by omega) (by omega) rfl
    exact ⟨3, 13, _, _, r, rfl, by omega, by omega, by omega, rfl, by omega, by omega, rfl, h1', by rw [h2']; simp only [rotAt, rotI]; omega⟩
  · obtain ⟨r, h1', h2'⟩ := key 5 11 (by omega) (by omega) rfl
    exact ⟨5, 11, _, _, r, rfl, by omega, by omega, by omega, rfl, by omega, by omega, rfl, h1', by rw [h2']; simp only [rotAt, rotI]; omega⟩
end Go.Proofs.YtlnifplomlnoiaaDoor
