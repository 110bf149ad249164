/- The key expansion as a function on lists of numbers. No program. -/
import Derived.Test.YtlnifplomlnoiaaDoorRc2Fn
namespace Go.Proofs.YtlnifplomlnoiaaDoor

/-- One step of the first filling. -/
def st1 (T : Nat → Nat) (t : Nat) (l : List Nat) (i : Nat) : List Nat := l.set i (T ((l.getD (i - 1) 0 + l.getD (i - t) 0) % 256))
/-- So many steps of the first filling, from place t on. -/
def fill1 (T : Nat → Nat) (t : Nat) (l : List Nat) : Nat → List Nat
  | 0 => l
  | k + 1 => st1 T t (fill1 T t l k) (t + k)
/-- The narrowed place. -/
def st2 (T : Nat → Nat) (t8 m : Nat) (l : List Nat) : List Nat := l.set (128 - t8) (T (l.getD (128 - t8) 0 &&& m))
/-- One step of the way back. -/
def st3 (T : Nat → Nat) (t8 : Nat) (l : List Nat) (i : Nat) : List Nat := l.set i (T (l.getD (i + 1) 0 ^^^ l.getD (i + t8) 0))
/-- So many steps of the way back, from the place below 128 - t8 down. -/
def fill3 (T : Nat → Nat) (t8 : Nat) (l : List Nat) : Nat → List Nat
  | 0 => l
  | k + 1 => st3 T t8 (fill3 T t8 l k) (128 - t8 - 1 - k)
/-- The words. -/
def pairs (l : List Nat) : List Nat := (List.range 64).map fun j => l.getD (2 * j) 0 + 256 * l.getD (2 * j + 1) 0
def padded0 (key : List Nat) : List Nat := key ++ List.replicate (128 - key.length) 0
def expandedBytes (T : Nat → Nat) (key : List Nat) (t1 : Nat) : List Nat :=
  fill3 T ((t1 + 7) / 8) (st2 T ((t1 + 7) / 8) (255 % 2 ^ (8 + t1 - 8 * ((t1 + 7) / 8))) (fill1 T key.length (padded0 key) (128 - key.length))) (128 - (t1 + 7) / 8)
def expanded (T : Nat → Nat) (key : List Nat) (t1 : Nat) : List Nat := pairs (expandedBytes T key t1)

/-- The first so many words, noughts behind them. -/
def pairsUp (l : List Nat) (j : Nat) : List Nat := (List.range 64).map fun i => if i < j then l.getD (2 * i) 0 + 256 * l.getD (2 * i + 1) 0 else 0
theorem pairsUp_zero (l : List Nat) : pairsUp l 0 = List.replicate 64 0 := rfl
theorem pairsUp_all (l : List Nat) : pairsUp l 64 = pairs l := by
  unfold pairsUp pairs
  apply List.map_congr_left
  intro i hi
  rw [List.mem_range] at hi
  rw [if_pos hi]
theorem pairsUp_length (l : List Nat) (j : Nat) : (pairsUp l j).length = 64 := by simp [pairsUp]
theorem pairsUp_set (l : List Nat) (j : Nat) : (pairsUp l j).set j (l.getD (2 * j) 0 + 256 * l.getD (2 * j + 1) 0) = pairsUp l (j + 1) := by
  apply List.ext_getElem
  · simp [pairsUp]
  · intro i h1 h2
    rw [List.getElem_set]
    simp only [pairsUp, List.getElem_map, List.getElem_range]
    by_cases h : j = i
    · subst h; simp
    · rw [if_neg h]
      by_cases h3 : i < j
      · rw [if_pos h3, if_pos (by omega)]
      · rw [if_neg h3, if_neg (by omega)]

/-- 128 bytes. -/
def Byt (l : List Nat) : Prop := l.length = 128 ∧ ∀ i, l.getD i 0 ≤ 255
theorem Byt.set_ {l : List Nat} (h : Byt l) (i x : Nat) (hx : x ≤ 255) : Byt (l.set i x) := by
  refine ⟨by simpa using h.1, fun j => ?_⟩
  have hj := h.2 j
  rw [List.getD_eq_getElem?_getD] at hj ⊢
  rw [List.getElem?_set]
  split
  · split <;> simp <;> omega
  · exact hj
theorem byt_padded {key : List Nat} (hl : key.length ≤ 128) (hb : ∀ x ∈ key, x ≤ 255) : Byt (padded0 key) := by
  refine ⟨by simp [padded0]; omega, fun j => ?_⟩
  rw [List.getD_eq_getElem?_getD]
  cases h : (padded0 key)[j]? with
  | none => simp
  | some x =>
    have hm := List.mem_of_getElem? h
    simp only [padded0, List.mem_append, List.mem_replicate] at hm
    rcases hm with hm | ⟨_, rfl⟩
    · exact hb x hm
    · simp
end Go.Proofs.YtlnifplomlnoiaaDoor
