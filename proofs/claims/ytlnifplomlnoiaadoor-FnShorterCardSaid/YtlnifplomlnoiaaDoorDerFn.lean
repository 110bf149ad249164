/- What the derivation answers at two rounds, by SHA-1 or SHA-256, as a function on lists; fewer bytes are the first ones of more. No program. -/
import Derived.Test.YtlnifplomlnoiaaDoorSha1Sum
import Derived.Test.YtlnifplomlnoiaaDoorPbFn
namespace Go.Proofs.YtlnifplomlnoiaaDoor
open Go.RowKit

/-- So many derived bytes. -/
def dOut (h : Int) (K : Nat → Int) (r : Nat) (ss ps : List Int) (id : Int) (size : Nat) : List Int :=
  if h = 1 then (pbOut sha1 (List.replicate 64 id) (fillL ss ++ fillL ps) ((size + 19) / 20)).take size
  else (pbOut (sha2 K r) (List.replicate 64 id) (fillL ss ++ fillL ps) ((size + 31) / 32)).take size
theorem dOut_length (h : Int) (K : Nat → Int) (r : Nat) (ss ps : List Int) (id : Int) (size : Nat) : (dOut h K r ss ps id size).length = size := by
  unfold dOut
  split
  · rw [List.length_take, pbOut_length sha1 _ _ 20 sha1_length]; omega
  · rw [List.length_take, pbOut_length (sha2 K r) _ _ 32 (sha2_length K r)]; omega
theorem dOut_ok (h : Int) (K : Nat → Int) (r : Nat) (ss ps : List Int) (id : Int) (size : Nat) : ∀ x ∈ dOut h K r ss ps id size, 0 ≤ x ∧ x ≤ 255 := by
  unfold dOut
  split
  · exact ((pbOut_ok sha1 sha1_ok _ _ _).take _).mem
  · exact ((pbOut_ok (sha2 K r) (sha2_ok K r) _ _ _).take _).mem
theorem dOut_shorter (h : Int) (K : Nat → Int) (r : Nat) (ss ps : List Int) (id : Int) (size less : Nat) (hl : less ≤ size) : (dOut h K r ss ps id size).take less = dOut h K r ss ps id less := by
  unfold dOut
  split
  · rw [List.take_take, Nat.min_eq_left hl]
    exact pb_shorter sha1 _ _ 20 sha1_length _ _ less (by omega) (by omega)
  · rw [List.take_take, Nat.min_eq_left hl]
    exact pb_shorter (sha2 K r) _ _ 32 (sha2_length K r) _ _ less (by omega) (by omega)
end Go.Proofs.YtlnifplomlnoiaaDoor
