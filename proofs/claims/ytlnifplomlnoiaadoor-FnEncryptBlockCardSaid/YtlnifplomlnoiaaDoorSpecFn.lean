/- The specification's rounds, a word at a time: 64 steps are the cipher's rounds. No program. -/
import Derived.Test.YtlnifplomlnoiaaDoorSpecMix
namespace Go.Proofs.YtlnifplomlnoiaaDoor

def gets : S4 → Nat → Int
  | (a, _, _, _), 0 => a
  | (_, b, _, _), 1 => b
  | (_, _, c, _), 2 => c
  | (_, _, _, d), _ => d
def sets : S4 → Nat → Int → S4
  | (_, b, c, d), 0, x => (x, b, c, d)
  | (a, _, c, d), 1, x => (a, x, c, d)
  | (a, b, _, d), 2, x => (a, b, x, d)
  | (a, b, c, _), _, x => (a, b, c, x)
def rotAt : Nat → Int → Int
  | 0, x => rotI 2 32768 x
  | 1, x => rotI 4 16384 x
  | 2, x => rotI 8 8192 x
  | _, x => rotI 32 2048 x
def half1 (K : Nat → Int) (i j : Nat) (s : S4) : S4 := sets s i ((gets s i + addAt s i (K j)) % 65536)
def half2 (i : Nat) (s : S4) : S4 := sets s i (rotAt i (gets s i))
def mash1 (K : Nat → Int) (i : Nat) (s : S4) : S4 := sets s i ((gets s i + K (gets s ((i + 3) % 4) % 64).toNat) % 65536)
def mashes (K : Nat → Int) (s : S4) : Nat → S4
  | 0 => s
  | i + 1 => mash1 K i (mashes K s i)
def stepE (K : Nat → Int) (j : Nat) (s : S4) : S4 :=
  let t := half2 (j % 4) (half1 K (j % 4) j s)
  if j = 19 ∨ j = 43 then mashes K t 4 else t
def runE (K : Nat → Int) (s : S4) : Nat → S4
  | 0 => s
  | j + 1 => stepE K j (runE K s j)

theorem mashes_eq (K : Nat → Int) (s : S4) : mashes K s 4 = mash K s := rfl
theorem stepE_plain (K : Nat → Int) (j : Nat) (s : S4) (h : ¬ (j = 19 ∨ j = 43)) : stepE K j s = half2 (j % 4) (half1 K (j % 4) j s) := if_neg h
theorem stepE_mash (K : Nat → Int) (j : Nat) (s : S4) (h : j = 19 ∨ j = 43) : stepE K j s = mash K (half2 (j % 4) (half1 K (j % 4) j s)) := if_pos h
theorem four_halves (K : Nat → Int) (j : Nat) (s : S4) :
    half2 3 (half1 K 3 (j + 3) (half2 2 (half1 K 2 (j + 2) (half2 1 (half1 K 1 (j + 1) (half2 0 (half1 K 0 j s))))))) = rnd K j s := rfl
theorem runE_four (K : Nat → Int) (s : S4) (q : Nat) : runE K s (4 * q + 4) = stepE K (4 * q + 3) (stepE K (4 * q + 2) (stepE K (4 * q + 1) (stepE K (4 * q) (runE K s (4 * q))))) := rfl
theorem runE_plain (K : Nat → Int) (s : S4) (q : Nat) (h : q ≠ 4) (h' : q ≠ 10) : runE K s (4 * q + 4) = rnd K (4 * q) (runE K s (4 * q)) := by
  rw [runE_four, stepE_plain _ _ _ (by omega), stepE_plain _ _ _ (by omega), stepE_plain _ _ _ (by omega), stepE_plain _ _ _ (by omega),
    show (4 * q + 3) % 4 = 3 by omega, show (4 * q + 2) % 4 = 2 by omega, show (4 * q + 1) % 4 = 1 by omega, show 4 * q % 4 = 0 by omega]
  exact four_halves K (4 * q) _
theorem runE_mash (K : Nat → Int) (s : S4) (q : Nat) (h : q = 4 ∨ q = 10) : runE K s (4 * q + 4) = mash K (rnd K (4 * q) (runE K s (4 * q))) := by
  rw [runE_four, stepE_mash _ _ _ (by omega), stepE_plain _ _ _ (by omega), stepE_plain _ _ _ (by omega), stepE_plain _ _ _ (by omega),
    show (4 * q + 3) % 4 = 3 by omega, show (4 * q + 2) % 4 = 2 by omega, show (4 * q + 1) % 4 = 1 by omega, show 4 * q % 4 = 0 by omega]
  exact congrArg (mash K) (four_halves K (4 * q) _)
theorem runE_rnds (K : Nat → Int) (s : S4) (q0 : Nat) : ∀ n, (∀ m, m < n → q0 + m ≠ 4 ∧ q0 + m ≠ 10) → runE K s (4 * (q0 + n)) = rnds K (4 * q0) n (runE K s (4 * q0))
  | 0, _ => rfl
  | n + 1, h => by
    have h1 := h n (Nat.lt_succ_self n)
    rw [show 4 * (q0 + (n + 1)) = 4 * (q0 + n) + 4 by omega, runE_plain K s (q0 + n) h1.1 h1.2, runE_rnds K s q0 n (fun m hm => h m (by omega)), show 4 * (q0 + n) = 4 * q0 + 4 * n by omega]
    rfl
theorem runE_all (K : Nat → Int) (s : S4) : runE K s 64 = encS K s := by
  have e1 := runE_rnds K s 0 4 (fun m hm => by omega)
  have e2 := runE_mash K s 4 (Or.inl rfl)
  have e3 := runE_rnds K s 5 5 (fun m hm => by omega)
  have e4 := runE_mash K s 10 (Or.inr rfl)
  have e5 := runE_rnds K s 11 5 (fun m hm => by omega)
  simp only [Nat.reduceMul, Nat.reduceAdd] at e1 e2 e3 e4 e5
  have r0 : runE K s 0 = s := rfl
  have r5 : rnd K 16 (rnds K 0 4 s) = rnds K 0 5 s := rfl
  have r6 : ∀ t, rnd K 40 (rnds K 20 5 t) = rnds K 20 6 t := fun _ => rfl
  rw [r0] at e1
  rw [e1, r5] at e2
  rw [e2] at e3
  rw [e3, r6] at e4
  rw [e5, e4]
  rfl
end Go.Proofs.YtlnifplomlnoiaaDoor
