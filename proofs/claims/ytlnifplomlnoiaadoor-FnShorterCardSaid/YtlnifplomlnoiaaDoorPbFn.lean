/- The derivation of keys (two rounds) as a function on lists, over whatever hash. No program. -/
import Derived.Test.YtlnifplomlnoiaaDoorFill
namespace Go.Proofs.YtlnifplomlnoiaaDoor
open Go.RowKit

/-- A digest again and again, 64 places. -/
def fill64 (a : List Int) : List Int := (a ++ a ++ a ++ a).take 64
/-- So many blocks of a text, a number added to each. -/
def bump (B I : List Int) : Nat → List Int
  | 0 => I
  | j + 1 => (bump B I j).take (64 * j) ++ ((addSt (((bump B I j).drop (64 * j)).take 64) B 64).2 ++ (bump B I j).drop (64 * j + 64))
/-- The text that is hashed, at the i-th block. -/
def pbI (H : List Int → List Int) (D I : List Int) : Nat → List Int
  | 0 => I
  | i + 1 => bump (fill64 (H (H (D ++ pbI H D I i)))) (pbI H D I i) (I.length / 64)
def pbA (H : List Int → List Int) (D I : List Int) (i : Nat) : List Int := H (H (D ++ pbI H D I i))
/-- What so many blocks give. -/
def pbOut (H : List Int → List Int) (D I : List Int) : Nat → List Int
  | 0 => []
  | i + 1 => pbOut H D I i ++ pbA H D I i

theorem bump_length {B I : List Int} : ∀ j, 64 * j ≤ I.length → (bump B I j).length = I.length
  | 0, _ => rfl
  | j + 1, h => by
    have ih := bump_length (B := B) (I := I) j (by omega)
    rw [bump, List.length_append, List.length_append, addSt_length, List.length_take, List.length_take, List.length_drop, List.length_drop, ih]
    omega
theorem pbI_length (H : List Int → List Int) (D I : List Int) : ∀ i, (pbI H D I i).length = I.length
  | 0 => rfl
  | i + 1 => by
    rw [pbI, bump_length _ (by rw [pbI_length H D I i]; omega), pbI_length H D I i]
theorem pbOut_length (H : List Int → List Int) (D I : List Int) (u : Nat) (hu : ∀ l, (H l).length = u) : ∀ c, (pbOut H D I c).length = u * c
  | 0 => rfl
  | c + 1 => by rw [pbOut, List.length_append, pbOut_length H D I u hu c, pbA, hu, Nat.mul_succ]
theorem pbOut_prefix (H : List Int → List Int) (D I : List Int) (c : Nat) : ∀ k, ∃ t, pbOut H D I (c + k) = pbOut H D I c ++ t
  | 0 => ⟨[], by simp⟩
  | k + 1 => by
    obtain ⟨t, ht⟩ := pbOut_prefix H D I c k
    exact ⟨t ++ pbA H D I (c + k), by rw [← Nat.add_assoc, pbOut, ht, List.append_assoc]⟩
/-- Fewer bytes are the first ones of more. -/
theorem pb_shorter (H : List Int → List Int) (D I : List Int) (u : Nat) (hu : ∀ l, (H l).length = u) (c1 c2 n : Nat) (hc : c2 ≤ c1) (hn : n ≤ u * c2) :
    (pbOut H D I c1).take n = (pbOut H D I c2).take n := by
  obtain ⟨k, rfl⟩ := Nat.exists_eq_add_of_le hc
  obtain ⟨t, ht⟩ := pbOut_prefix H D I c2 k
  rw [ht, List.take_append_of_le_length (by rw [pbOut_length H D I u hu]; exact hn)]

theorem ByteL.mem {l : List Int} (h : ByteL l) : ∀ z ∈ l, 0 ≤ z ∧ z ≤ 255 := by
  intro z hz
  obtain ⟨i, hi, rfl⟩ := List.mem_iff_getElem.1 hz
  have := h i
  rwa [List.getD_eq_getElem?_getD, List.getElem?_eq_getElem hi] at this
theorem ByteL.of {l : List Int} (h : ∀ z ∈ l, 0 ≤ z ∧ z ≤ 255) : ByteL l := by
  intro i
  rw [List.getD_eq_getElem?_getD]
  cases hx : l[i]? with
  | none => simp
  | some x => exact h x (List.mem_of_getElem? hx)
theorem ByteL.take {l : List Int} (h : ByteL l) (n : Nat) : ByteL (l.take n) := ByteL.of fun z hz => h.mem z (List.mem_of_mem_take hz)
theorem ByteL.drop {l : List Int} (h : ByteL l) (n : Nat) : ByteL (l.drop n) := ByteL.of fun z hz => h.mem z (List.mem_of_mem_drop hz)
theorem ByteL.append {l m : List Int} (h : ByteL l) (h' : ByteL m) : ByteL (l ++ m) := ByteL.of fun z hz => by
  rcases List.mem_append.1 hz with hz | hz
  · exact h.mem z hz
  · exact h'.mem z hz
theorem ByteL.cyc {l : List Int} (h : ByteL l) (n : Nat) : ByteL (cyc l n) := ByteL.of fun z hz => by
  simp only [Proofs.YtlnifplomlnoiaaDoor.cyc, List.mem_map] at hz
  obtain ⟨i, _, rfl⟩ := hz
  exact h _
theorem ByteL.fill64 {a : List Int} (h : ByteL a) : ByteL (fill64 a) := (((h.append h).append h).append h).take 64
theorem bump_ok {B I : List Int} (hB : ByteL B) (hI : ByteL I) : ∀ j, ByteL (bump B I j)
  | 0 => hI
  | j + 1 => by
    have ih := bump_ok hB hI j
    exact (ih.take _).append ((addSt_ok _ _ ((ih.drop _).take _) hB 64).2.append (ih.drop _))
theorem pbI_ok (H : List Int → List Int) (hH : ∀ l, ByteL (H l)) (D I : List Int) (hI : ByteL I) : ∀ i, ByteL (pbI H D I i)
  | 0 => hI
  | i + 1 => bump_ok (hH _).fill64 (pbI_ok H hH D I hI i) _
theorem pbOut_ok (H : List Int → List Int) (hH : ∀ l, ByteL (H l)) (D I : List Int) : ∀ c, ByteL (pbOut H D I c)
  | 0 => by intro i; simp [pbOut]
  | c + 1 => (pbOut_ok H hH D I c).append (hH _)
end Go.Proofs.YtlnifplomlnoiaaDoor
