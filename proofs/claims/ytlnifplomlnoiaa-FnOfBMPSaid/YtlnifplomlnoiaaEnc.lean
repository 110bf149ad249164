/- utf16.EncodeRune: the sign for 'no pair is wanted' at runes below 2^16, another first half above; errors.New: an error that is not nil. No condition. -/
import Derived.Test.YtlnifplomlnoiaaRunes
import Derived.Test.YtlnifplomlnoiaaProg
namespace Go.Proofs.Ytlnifplomlnoiaa
open Go.RowKit

theorem decode_max (s : ByteArray) (pos : Nat) : (Utf8.decode s pos).1 ≤ 1114111 := by
  have hb : ∀ k, (s.get! (pos + k)).toNat < 256 := fun k => (s.get! (pos + k)).toNat_lt
  have h0 := hb 0; have h1 := hb 1; have h2 := hb 2; have h3 := hb 3
  simp only [Utf8.decode]
  repeat' split
  all_goals simp_all [Utf8.runeError, Utf8.valid]
  all_goals omega

theorem encode_low (r : Int) (w : World) (h0 : 0 ≤ r) (h : r ≤ 65535) :
    Calls Try.prog 38 #[.int .i32 r] w fun E w' => E = .returned (.tuple #[.int .i32 65533, .int .i32 65533]) ∧ w = w' := by
  have hd : decide (r < (65536 : Int)) = true := by simp; omega
  go_enter Try.func38, Try.ntmps38
  go_wp2_with fail
  go_ret2
  exact ⟨rfl, rfl⟩

def EncHigh (w : World) (E : Ending) (w' : World) : Prop := (∃ a b : Int, E = .returned (.tuple #[.int .i32 a, .int .i32 b]) ∧ (a != 65533) = true) ∧ w = w'

theorem and1023 (x : Int) (h0 : 0 ≤ x) (h : x < 2147483648) : bits .and .i32 x 1023 = x % 1024 :=
  bits_mask .i32 31 (by decide) wraps_i32 10 (by decide) x h0 h

theorem encode_high (r : Int) (w : World) (h0 : 65536 ≤ r) (h : r ≤ 1114111) :
    Calls Try.prog 38 #[.int .i32 r] w (EncHigh w) := by
  have hd : decide (r < (65536 : Int)) = false := by simp; omega
  have hd2 : decide ((1114111 : Int) < r) = false := by simp; omega
  obtain ⟨q, rfl⟩ : ∃ q, r = q + 65536 := ⟨r - 65536, by omega⟩
  have q0 : 0 ≤ q := by omega
  have q1 : q ≤ 1048575 := by omega
  have e1 : bits .and .i32 (q / 1024) 1023 = q / 1024 % 1024 := and1023 _ (by omega) (by omega)
  have e2 : bits .and .i32 q 1023 = q % 1024 := and1023 _ (by omega) (by omega)
  clear h0 h
  go_enter Try.func38, Try.ntmps38
  go_wp2_with fail
  go_ret2
  refine ⟨⟨_, _, rfl, ?_⟩, rfl⟩
  rw [bne_iff_ne]
  omega

theorem new_any (s : ByteArray) (w : World) :
    Calls Try.prog 39 #[.string s] w fun E w' => E = .returned (.iface 87 (.pointer (some ⟨w.heap.size, 0, none⟩))) ∧ Below w.heap.size w w' := by
  go_enter Try.func39, Try.ntmps39
  go_wp2_with fail
  go_ret
  exact ⟨rfl, (Below.refl _ _).alloc (Nat.le_refl _) _⟩
end Go.Proofs.Ytlnifplomlnoiaa
