/- Small laws of memory and of bytes as numbers that the texts on the hashes and the derivation share. No condition. -/
import Derived.Test.YtlnifplomlnoiaaDoorBits64
import Derived.Test.YtlnifplomlnoiaaDoorAppend
import Derived.Test.YtlnifplomlnoiaaDoorArrays
import Derived.StillTailTactics
import Derived.Deep.RegionHeld3
import Derived.BigFrame
import Derived.BigQuiet
import Derived.Laws.DeepNot64
import Derived.Great.BuildSlice
namespace Go.Proofs.YtlnifplomlnoiaaDoor
open Go.RowKit

def ivals (l : List Int) : List Value := l.map (Value.int .u8)
theorem ivals_get {l : List Int} {j : Nat} (h : j < l.length) : (ivals l)[j]? = some (.int .u8 (l.getD j 0)) := by
  simp [ivals, List.getElem?_eq_getElem h, List.getD_eq_getElem?_getD]
theorem ivals_append (l m : List Int) : ivals (l ++ m) = ivals l ++ ivals m := by simp [ivals]
theorem below_of_grown {B g : Nat} {w w' : World} (h : w.grownBy w' (some g)) (hg : B ≤ g) (hB : B ≤ w.heap.size) : Below B w w' :=
  ⟨h.os, h.tape, h.output, h.size, fun i hi => h.block i (Nat.lt_of_lt_of_le hi hB) (fun e => by simp at e; omega)⟩
theorem own_form2 {w : World} {base : Nat} {e : TypeId} {v : Value} {n : Nat} {xs : List Value} (h : w.ownsRow base e 1 v n xs) : ∃ A c, v = .slice A n c ∧ n ≤ c ∧ Rd w w.heap.size A n xs := by
  have h' := h
  rcases h.2 with ⟨rfl, rfl⟩ | ⟨g, cap, cur, rfl, _, _, hc, _⟩
  · exact ⟨none, 0, rfl, Nat.le_refl _, Rd.of_own h'⟩
  · exact ⟨_, cap, rfl, hc, Rd.of_own h'⟩
def ints (l : List UInt8) : List Int := l.map fun b => (b.toNat : Int)
theorem ivals_ints (l : List UInt8) : ivals (ints l) = bvals l := by
  simp [ivals, ints, bvals, bval, Function.comp_def]
theorem ints_le {l : List UInt8} : ∀ x ∈ ints l, 0 ≤ x ∧ x ≤ 255 := by
  intro x hx
  simp only [ints, List.mem_map] at hx
  obtain ⟨b, _, rfl⟩ := hx
  have := b.toNat_lt
  omega
/-- Numbers as bytes. -/
def bytesOfInts (l : List Int) : List UInt8 := l.map fun z => UInt8.ofNat z.toNat
theorem ints_bytesOfInts {l : List Int} (h : ∀ x ∈ l, 0 ≤ x ∧ x ≤ 255) : ints (bytesOfInts l) = l := by
  unfold ints bytesOfInts
  rw [List.map_map]
  conv => rhs; rw [← List.map_id l]
  apply List.map_congr_left
  intro x hx
  have := h x hx
  simp only [Function.comp, UInt8.toNat_ofNat', id]
  omega
theorem ints_length (l : List UInt8) : (ints l).length = l.length := by simp [ints]
end Go.Proofs.YtlnifplomlnoiaaDoor
