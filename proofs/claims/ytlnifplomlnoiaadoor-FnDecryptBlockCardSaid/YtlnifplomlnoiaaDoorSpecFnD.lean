/- The specification's rounds undone, a word at a time: 64 steps are the cipher's rounds undone. And the turning back of a word. No program. -/
import Derived.Test.YtlnifplomlnoiaaDoorSpecRot
namespace Go.Proofs.YtlnifplomlnoiaaDoor

def unrotAt : Nat → Int → Int
  | 0, x => rotI 32768 2 x
  | 1, x => rotI 16384 4 x
  | 2, x => rotI 8192 8 x
  | _, x => rotI 2048 32 x
def uhalf1 (i : Nat) (s : S4) : S4 := sets s i (unrotAt i (gets s i))
def uhalf2 (K : Nat → Int) (i j : Nat) (s : S4) : S4 := sets s i ((gets s i - addAt s i (K j)) % 65536)
def unmash1 (K : Nat → Int) (i : Nat) (s : S4) : S4 := sets s i ((gets s i - K (gets s ((i + 3) % 4) % 64).toNat) % 65536)
/-- So many words of a mash undone, the last word first. -/
def unmashes (K : Nat → Int) (s : S4) : Nat → S4
  | 0 => s
  | i + 1 => unmash1 K (3 - i) (unmashes K s i)
def stepD (K : Nat → Int) (j : Nat) (s : S4) : S4 :=
  uhalf2 K (j % 4) j (uhalf1 (j % 4) (if j = 19 ∨ j = 43 then unmashes K s 4 else s))
/-- So many steps, from the key's last word down. -/
def runD (K : Nat → Int) (s : S4) : Nat → S4
  | 0 => s
  | n + 1 => stepD K (63 - n) (runD K s n)

theorem unmashes_eq (K : Nat → Int) (s : S4) : unmashes K s 4 = unmash K s := rfl
theorem stepD_plain (K : Nat → Int) (j : Nat) (s : S4) (h : ¬ (j = 19 ∨ j = 43)) : stepD K j s = uhalf2 K (j % 4) j (uhalf1 (j % 4) s) := by rw [stepD, if_neg h]
theorem stepD_mash (K : Nat → Int) (j : Nat) (s : S4) (h : j = 19 ∨ j = 43) : stepD K j s = uhalf2 K (j % 4) j (uhalf1 (j % 4) (unmash K s)) := by rw [stepD, if_pos h, unmashes_eq]
theorem four_unhalves (K : Nat → Int) (j : Nat) (s : S4) :
    uhalf2 K 0 (j - 3) (uhalf1 0 (uhalf2 K 1 (j - 2) (uhalf1 1 (uhalf2 K 2 (j - 1) (uhalf1 2 (uhalf2 K 3 j (uhalf1 3 s))))))) = unrnd K j s := rfl
theorem runD_four (K : Nat → Int) (s : S4) (q : Nat) : runD K s (4 * q + 4) = stepD K (63 - (4 * q + 3)) (stepD K (63 - (4 * q + 2)) (stepD K (63 - (4 * q + 1)) (stepD K (63 - 4 * q) (runD K s (4 * q))))) := rfl
theorem runD_plain (K : Nat → Int) (s : S4) (q : Nat) (h0 : q < 16) (h : q ≠ 5) (h' : q ≠ 11) : runD K s (4 * q + 4) = unrnd K (63 - 4 * q) (runD K s (4 * q)) := by
  rw [runD_four, stepD_plain _ _ _ (by omega), stepD_plain _ _ _ (by omega), stepD_plain _ _ _ (by omega), stepD_plain _ _ _ (by omega),
    show (63 - (4 * q + 3)) % 4 = 0 by omega, show (63 - (4 * q + 2)) % 4 = 1 by omega, show (63 - (4 * q + 1)) % 4 = 2 by omega, show (63 - 4 * q) % 4 = 3 by omega,
    show 63 - (4 * q + 3) = 63 - 4 * q - 3 by omega, show 63 - (4 * q + 2) = 63 - 4 * q - 2 by omega, show 63 - (4 * q + 1) = 63 - 4 * q - 1 by omega]
  exact four_unhalves K (63 - 4 * q) _
theorem runD_mash (K : Nat → Int) (s : S4) (q : Nat) (h : q = 5 ∨ q = 11) : runD K s (4 * q + 4) = unrnd K (63 - 4 * q) (unmash K (runD K s (4 * q))) := by
  rw [runD_four, stepD_mash K (63 - 4 * q) _ (by omega), stepD_plain _ _ _ (by omega), stepD_plain _ _ _ (by omega), stepD_plain _ _ _ (by omega),
    show (63 - (4 * q + 3)) % 4 = 0 by omega, show (63 - (4 * q + 2)) % 4 = 1 by omega, show (63 - (4 * q + 1)) % 4 = 2 by omega, show (63 - 4 * q) % 4 = 3 by omega,
    show 63 - (4 * q + 3) = 63 - 4 * q - 3 by omega, show 63 - (4 * q + 2) = 63 - 4 * q - 2 by omega, show 63 - (4 * q + 1) = 63 - 4 * q - 1 by omega]
  exact four_unhalves K (63 - 4 * q) _
theorem runD_rnds (K : Nat → Int) (s : S4) (q0 : Nat) : ∀ n, (∀ m, m < n → q0 + m < 16 ∧ q0 + m ≠ 5 ∧ q0 + m ≠ 11) → runD K s (4 * (q0 + n)) = unrnds K (63 - 4 * q0) n (runD K s (4 * q0))
  | 0, _ => rfl
  | n + 1, h => by
    have h1 := h n (Nat.lt_succ_self n)
    rw [show 4 * (q0 + (n + 1)) = 4 * (q0 + n) + 4 by omega, runD_plain K s (q0 + n) h1.1 h1.2.1 h1.2.2, runD_rnds K s q0 n (fun m hm => h m (by omega)), show 63 - 4 * (q0 + n) = 63 - 4 * q0 - 4 * n by omega]
    rfl
theorem runD_all (K : Nat → Int) (s : S4) : runD K s 64 = decS K s := by
  have e1 := runD_rnds K s 0 5 (fun m hm => by omega)
  have e2 := runD_mash K s 5 (Or.inl rfl)
  have e3 := runD_rnds K s 6 5 (fun m hm => by omega)
  have e4 := runD_mash K s 11 (Or.inr rfl)
  have e5 := runD_rnds K s 12 4 (fun m hm => by omega)
  simp only [Nat.reduceMul, Nat.reduceAdd, Nat.reduceSub] at e1 e2 e3 e4 e5
  have r0 : runD K s 0 = s := rfl
  have r5 : ∀ t, unrnds K 39 5 (unrnd K 43 t) = unrnds K 43 6 t := fun _ => rfl
  have r6 : ∀ t, unrnds K 15 4 (unrnd K 19 t) = unrnds K 19 5 t := fun _ => rfl
  rw [r0] at e1
  rw [e1] at e2
  rw [e2, r5] at e3
  rw [e3] at e4
  rw [e4, r6] at e5
  rw [e5]
  rfl

theorem unrot_facts (i : Nat) (hi : i < 4) (x : Int) (h0 : 0 ≤ x) (h1 : x ≤ 65535) :
    ∃ (e f : Nat) (u t r : Int), sh i = e ∧ e ≤ 5 ∧ (16 : Int) - (e : Int) = (f : Int) ∧ f ≤ 16 ∧ x * 2 ^ f = u ∧ 0 ≤ u ∧ u ≤ 2147450880 ∧ x / 2 ^ e = t ∧ bits .or .i64 t u = r ∧ r % 65536 = unrotAt i x := by
  obtain ⟨n, rfl⟩ : ∃ n : Nat, x = (n : Int) := ⟨x.toNat, by omega⟩
  have key : ∀ e f : Nat, 1 ≤ e → f ≤ 15 → e + f = 16 → ∃ r : Int, bits .or .i64 ((n : Int) / 2 ^ e) ((n : Int) * 2 ^ f) = r ∧ r = (n : Int) * 2 ^ f + (n : Int) / 2 ^ e := by
    intro e f he1 he5 hef
    refine ⟨_, rfl, ?_⟩
    have hp : (n : Int) * 2 ^ f = ((n * 2 ^ f : Nat) : Int) := by push_cast; rfl
    have hq : (n : Int) / 2 ^ e = ((n / 2 ^ e : Nat) : Int) := by push_cast; rfl
    have hb : n / 2 ^ e < 2 ^ f := by
      rw [Nat.div_lt_iff_lt_mul (Nat.two_pow_pos e), ← Nat.pow_add, Nat.add_comm f e, hef]
      omega
    have h2 : 2 ^ f ≤ 2 ^ 15 := Nat.pow_le_pow_right (by omega) he5
    have h3 : n * 2 ^ f ≤ 65535 * 2 ^ 15 := Nat.mul_le_mul (by omega) h2
    rw [hp, hq, i64_or_nat _ _ (by omega) (by omega), Nat.or_comm, or_add f n _ hb]
    push_cast
    rfl
  have h : i = 0 ∨ i = 1 ∨ i = 2 ∨ i = 3 := by omega
  rcases h with rfl | rfl | rfl | rfl
  · obtain ⟨r, h1', h2'⟩ := key 1 15 (by omega) (by omega) rfl
    exact ⟨1, 15, _, _, r, rfl, by omega, by omega, by omega, rfl, by omega, by omega, rfl, h1', by rw [h2']; simp only [unrotAt, rotI]; omega⟩
  · obtain ⟨r, h1', h2'⟩ := key 2 14 (by omega) (by omega) rfl
    exact ⟨2, 14, _, _, r, rfl, by omega, by omega, by omega, rfl, by omega, by omega, rfl, h1', by rw [h2']; simp only [unrotAt, rotI]; omega⟩
  · obtain ⟨r, h1', h2'⟩ := key 3 13 (by omega) (by omega) rfl
    exact ⟨3, 13, _, _, r, rfl, by omega, by omega, by omega, rfl, by omega, by omega, rfl, h1', by rw [h2']; simp only [unrotAt, rotI]; omega⟩
  · obtain ⟨r, h1', h2'⟩ := key 5 11 (by omega) (by omega) rfl
    exact ⟨5, 11, _, _, r, rfl, by omega, by omega, by omega, rfl, by omega, by omega, rfl, h1', by rw [h2']; simp only [unrotAt, rotI]; omega⟩
end Go.Proofs.YtlnifplomlnoiaaDoor
