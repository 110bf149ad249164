/- The thin package's OfBMP: the units' text and true, or nothing and false at an odd number of bytes. At most 2000 bytes. -/
import Derived.Test.YtlnifplomlnoiaaDecodeBMP
import Derived.Test.YtlnifplomlnoiaaSmall
namespace Go.Proofs.Ytlnifplomlnoiaa
open Go.RowKit

theorem own_form2 {w : World} {base : Nat} {e : TypeId} {v : Value} {n : Nat} {xs : List Value} (h : w.ownsRow base e 1 v n xs) : ∃ A c, v = .slice A n c ∧ n ≤ c ∧ Rd w w.heap.size A n xs := by
  have h' := h
  rcases h.2 with ⟨rfl, rfl⟩ | ⟨g, cap, cur, rfl, _, _, hc, _⟩
  · exact ⟨none, 0, rfl, Nat.le_refl _, Rd.of_own h'⟩
  · exact ⟨_, cap, rfl, hc, Rd.of_own h'⟩

/-- Bytes of units, with their noughts or without. -/
def unitBytes (us : List Nat) (e : Bool) : List UInt8 := enc2 us ++ if e then [0, 0] else []
def utf8 (us : List Nat) : ByteArray := runesBytes (us.map fun (r : Nat) => (r : Int))

theorem decodeBMP_any (A : Option Addr) (n c : Nat) (us : List Nat) (e : Bool) (w : World) (B : Nat) (hr : Rd w B A n (bvals (unitBytes us e))) (hc : n ≤ c) (hB : B ≤ w.heap.size) (hL : us.length ≤ 900) (hu : ∀ r ∈ us, plainUnit r ∧ r ≠ 0) :
    Calls Try.prog 31 #[.slice A n c] w (DecOk us w) := by
  cases e with
  | false => exact decodeBMP_plain A n c us w B (by simpa [unitBytes] using hr) hc hB (by omega) hu
  | true =>
    have hn : n = 2 * us.length + 2 := by have := hr.1; simp [unitBytes, bvals_length, enc2_length] at this; omega
    subst hn
    exact decodeBMP_term A (2 * us.length) c us w B (by simpa [unitBytes] using hr) (by omega) hB us.length rfl rfl (by omega) (fun r h => (hu r h).1)

theorem zzOfBMP_any (A : Option Addr) (n c : Nat) (us : List Nat) (e : Bool) (w : World) (B : Nat) (hr : Rd w B A n (bvals (unitBytes us e))) (hc : n ≤ c) (hB : B ≤ w.heap.size) (hL : us.length ≤ 900) (hu : ∀ r ∈ us, plainUnit r ∧ r ≠ 0) :
    Calls Try.prog 20 #[.slice A n c] w (DecOk us w) := by
  have hd := decodeBMP_any A n c us e w B hr hc hB hL hu
  have HD := Lib.hid hd
  clear hd hu hr
  go_enter Try.func20, Try.ntmps20
  go_wp2_with fail
  refine HD.out.mono ?_
  rintro E w1 ⟨rfl, hb⟩
  go_wp2_with fail
  go_ret2
  exact ⟨rfl, hb⟩

theorem zzOfBMP_odd (A : Option Addr) (n c : Nat) (w : World) (hm : n % 2 = 1) (hle : n ≤ 2001) :
    Calls Try.prog 20 #[.slice A n c] w fun E w' => (∃ a, E = .returned (.tuple #[.string ⟨#[]⟩, .iface 87 (.pointer (some a))])) ∧ Below w.heap.size w w' := by
  have HD := Lib.hid (decodeBMP_odd A n c w hm hle)
  clear hm
  go_enter Try.func20, Try.ntmps20
  go_wp2_with fail
  refine HD.out.mono ?_
  rintro E w1 ⟨⟨a, rfl⟩, hb⟩
  go_wp2_with fail
  go_ret2
  exact ⟨⟨a, rfl⟩, hb⟩

theorem handed_one (w : World) (A : Option Addr) (n c : Nat) (t : TypeId) : Handed (w.alloc (.cells #[.slice A n c] t)) w.heap.size [(A, n, c)] := by
  intro j x hx
  match j, hx with
  | 0, hx => simp at hx; subst hx; exact cell_of_row _ _ _ _ _ _ (heap_alloc_new w _)
  | j + 1, hx => simp at hx

def OfPost (us : List Nat) (w : World) (E : Ending) (w' : World) : Prop := E = .returned (.tuple #[.string (utf8 us), .bool true]) ∧ Below w.heap.size w w'

set_option maxHeartbeats 1000000 in
theorem implOfBMP_any (A : Option Addr) (n c : Nat) (us : List Nat) (e : Bool) (w : World) (B : Nat) (hr : Rd w B A n (bvals (unitBytes us e))) (hB : B ≤ w.heap.size) (hL : us.length ≤ 900) (hu : ∀ r ∈ us, plainUnit r ∧ r ≠ 0) :
    Calls Try.prog 10 #[.slice A n c] w (OfPost us w) := by
  have hn : n ≤ 2000 := by
    have := hr.1
    rw [bvals_length] at this
    unfold unitBytes at this
    rw [List.length_append, enc2_length] at this
    cases e <;> simp at this <;> omega
  have HU := Lib.hid hu
  clear hu
  go_enter Try.func10, Try.ntmps10
  go_wp2_with fail
  refine (areTexts_ok _ _ _ [(A, n, c)] _ rfl (by simp) (handed_one _ _ _ _ _) (by intro x hx; simp at hx; subst hx; simp; omega)).mono ?_
  rintro E w1 ⟨rfl, rfl⟩
  go_wp2_with fail
  refine (copied_any _ _ _ (unitBytes us e) _ _ (hr.alloc hB _) (by omega)).mono ?_
  rintro E w2 ⟨v, rfl, ho, hb⟩
  obtain ⟨A2, c2, rfl, hc2, r2⟩ := own_form2 ho
  have hl2 : (unitBytes us e).length = n := by rw [← bvals_length]; exact hr.1
  rw [hl2] at r2 hc2
  rw [hl2]
  have hbw : Below w.heap.size w w2 := ((Below.refl _ _).alloc (Nat.le_refl _) _).trans (hb.mono (by simp))
  clear ho hb hl2
  go_wp2_with fail
  refine (zzOfBMP_any _ _ _ us e _ _ r2 hc2 (Nat.le_refl _) hL HU.out).mono ?_
  rintro E w3 ⟨rfl, hb3⟩
  go_wp2_with fail
  go_ret2
  exact ⟨rfl, hbw.trans (hb3.mono hbw.size)⟩

set_option maxHeartbeats 1000000 in
theorem implOfBMP_odd (A : Option Addr) (n c : Nat) (bs : List UInt8) (w : World) (B : Nat) (hr : Rd w B A n (bvals bs)) (hB : B ≤ w.heap.size) (hm : n % 2 = 1) (hn : n ≤ 2000) :
    Calls Try.prog 10 #[.slice A n c] w fun E w' => E = .returned (.tuple #[.string ⟨#[]⟩, .bool false]) ∧ Below w.heap.size w w' := by
  have HM := Lib.hid hm
  clear hm
  go_enter Try.func10, Try.ntmps10
  go_wp2_with fail
  refine (areTexts_ok _ _ _ [(A, n, c)] _ rfl (by simp) (handed_one _ _ _ _ _) (by intro x hx; simp at hx; subst hx; simp; omega)).mono ?_
  rintro E w1 ⟨rfl, rfl⟩
  go_wp2_with fail
  refine (copied_any _ _ _ bs _ _ (hr.alloc hB _) (by omega)).mono ?_
  rintro E w2 ⟨v, rfl, ho, hb⟩
  obtain ⟨A2, c2, rfl, hc2, r2⟩ := own_form2 ho
  have hl2 : bs.length = n := by rw [← bvals_length]; exact hr.1
  rw [hl2]
  have hbw : Below w.heap.size w w2 := ((Below.refl _ _).alloc (Nat.le_refl _) _).trans (hb.mono (by simp))
  clear ho hb hl2 r2 hc2
  go_wp2_with fail
  refine (zzOfBMP_odd _ _ _ _ HM.out (by omega)).mono ?_
  rintro E w3 ⟨⟨a, rfl⟩, hb3⟩
  go_wp2_with fail
  go_ret2
  exact ⟨rfl, hbw.trans (hb3.mono hbw.size)⟩
end Go.Proofs.Ytlnifplomlnoiaa
