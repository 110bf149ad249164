/- sha1Sum: the package's wrapper of zzSHA1, as a hash function of the package. -/
import Derived.Test.YtlnifplomlnoiaaDoorSha1
import Derived.Test.YtlnifplomlnoiaaDoorSha256
import Derived.Test.YtlnifplomlnoiaaDoorAddOne
namespace Go.Proofs.YtlnifplomlnoiaaDoor
open Go.RowKit

set_option maxHeartbeats 1000000 in
theorem sha1Sum_any (A : Option Addr) (n c : Nat) (l : List Int) (w : World) (hr : Rd w w.heap.size A n (ivals l)) (hn : n ≤ 1024) :
    Calls Tryd.prog 57 #[.slice A n c] w (Hashed 20 (sha1 l) w) := by
  go_enter Tryd.func57, Tryd.ntmps57
  go_wp2_with fail
  refine (sha1_any A n c l w w.heap.size (Nat.le_refl _) hr (by omega)).mono ?_
  rintro E w1 ⟨v, rfl, ho, hb⟩
  have HO := Lib.hid ho
  clear ho
  go_wp2_with fail
  go_ret
  obtain ⟨g, cap, cs, hv, hg, hB, ht, hc, hl⟩ := own_blk HO.out (by omega)
  refine ⟨g, cap, congrArg Ending.returned hv, hc, hg, ⟨by rw [ivals_length, sha1_length], fun _ => ⟨g, 0, rfl, hB.lt, fun j u hu => ?_⟩⟩, hb⟩
  have hj : j < 20 := by
    rcases Nat.lt_or_ge j (ivals (sha1 l)).length with h | h
    · rwa [ivals_length, sha1_length] at h
    · rw [List.getElem?_eq_none h] at hu; cases hu
  rw [Nat.zero_add, hB.cell, take_get ht hj]
  exact hu

theorem be4_ok (x : Int) : ∀ z ∈ be4 x, 0 ≤ z ∧ z ≤ 255 := by
  intro z hz
  simp only [be4, List.mem_cons, List.not_mem_nil, or_false] at hz
  rcases hz with rfl | rfl | rfl | rfl <;> omega
theorem outBytes_ok : ∀ l : List Int, ∀ z ∈ outBytes l, 0 ≤ z ∧ z ≤ 255
  | [], z, hz => by cases hz
  | x :: l, z, hz => by
    rw [outBytes, List.mem_append] at hz
    rcases hz with h | h
    · exact be4_ok x z h
    · exact outBytes_ok l z h
theorem byteL_of {l : List Int} (h : ∀ z ∈ l, 0 ≤ z ∧ z ≤ 255) : ByteL l := by
  intro i
  rw [List.getD_eq_getElem?_getD]
  cases hx : l[i]? with
  | none => simp
  | some x => exact h x (List.mem_of_getElem? hx)
theorem sha1_ok (l : List Int) : ByteL (sha1 l) := byteL_of (outBytes_ok _)
theorem sets4_ok {l : List Int} (h : ByteL l) (o : Nat) (v : Int) : ByteL (sets4 l o v) :=
  (((h.set_ _ _ (by omega) (by omega)).set_ _ _ (by omega) (by omega)).set_ _ _ (by omega) (by omega)).set_ _ _ (by omega) (by omega)
theorem out2_ok (s : S8) : ByteL (out2 s) := by
  obtain ⟨a, b, c, d, e, f, g, h⟩ := s
  have h0 : ByteL (List.replicate 32 (0 : Int)) := by
    intro i
    rw [List.getD_eq_getElem?_getD, List.getElem?_replicate]
    split <;> simp
  exact sets4_ok (sets4_ok (sets4_ok (sets4_ok (sets4_ok (sets4_ok (sets4_ok (sets4_ok h0 _ _) _ _) _ _) _ _) _ _) _ _) _ _) _ _
theorem sha2_ok (K : Nat → Int) (r : Nat) (l : List Int) : ByteL (sha2 K r l) := out2_ok _
end Go.Proofs.YtlnifplomlnoiaaDoor
