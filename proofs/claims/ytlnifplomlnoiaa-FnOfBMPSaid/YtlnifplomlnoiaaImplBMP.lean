/- The thin package's BMP and BMPZero: the reference's bytes and true, or nothing and false. Texts of at most 1000 bytes. -/
import Derived.Test.YtlnifplomlnoiaaBmpString
namespace Go.Proofs.Ytlnifplomlnoiaa
open Go.RowKit

set_option maxHeartbeats 1000000 in
theorem zzBMP_any (s : ByteArray) (w : World) (hs : s.size ≤ 1000) : Calls Try.prog 17 #[.string s] w (BmpErr s false w) := by
  cases hl : lowB s
  · have HL := Lib.hid hl
    clear hl
    go_enter Try.func17, Try.ntmps17
    go_wp2_with (go_at_call 29; refine (bmpString_any _ _ hs).mono ?_; intro E w1 hp; obtain ⟨a, rfl, hb⟩ := hp.no HL.out; clear hp)
    go_ret2
    exact ⟨hb, fun h => (by rw [HL.out] at h; cases h), fun _ => ⟨a, rfl⟩⟩
  · have HL := Lib.hid hl
    clear hl
    go_enter Try.func17, Try.ntmps17
    go_wp2_with (go_at_call 29; refine (bmpString_any _ _ hs).mono ?_; intro E w1 hp; obtain ⟨v, rfl, hown, hb⟩ := hp.yes HL.out; clear hp)
    go_ret2
    exact ⟨hb, fun _ => ⟨v, rfl, hown⟩, fun h => (by rw [HL.out] at h; cases h)⟩

set_option maxHeartbeats 1000000 in
theorem zzBMPZero_any (s : ByteArray) (w : World) (hs : s.size ≤ 1000) : Calls Try.prog 18 #[.string s] w (BmpErr s true w) := by
  cases hl : lowB s
  · have HL := Lib.hid hl
    clear hl
    go_enter Try.func18, Try.ntmps18
    go_wp2_with (go_at_call 30; refine (bmpZero_any _ _ hs).mono ?_; intro E w1 hp; obtain ⟨a, rfl, hb⟩ := hp.no HL.out; clear hp)
    go_ret2
    exact ⟨hb, fun h => (by rw [HL.out] at h; cases h), fun _ => ⟨a, rfl⟩⟩
  · have HL := Lib.hid hl
    clear hl
    go_enter Try.func18, Try.ntmps18
    go_wp2_with (go_at_call 30; refine (bmpZero_any _ _ hs).mono ?_; intro E w1 hp; obtain ⟨v, rfl, hown, hb⟩ := hp.yes HL.out; clear hp)
    go_ret2
    exact ⟨hb, fun _ => ⟨v, rfl, hown⟩, fun h => (by rw [HL.out] at h; cases h)⟩

set_option maxHeartbeats 1000000 in
theorem implBMP_any (s : ByteArray) (w : World) (hs : s.size ≤ 1000) : Calls Try.prog 7 #[.string s] w (BmpPost s false w) := by
  cases hl : lowB s
  · have HL := Lib.hid hl
    clear hl
    go_enter Try.func7, Try.ntmps7
    go_wp2_with (go_at_call 17; refine (zzBMP_any _ _ hs).mono ?_; intro E w1 hp; obtain ⟨a, rfl, hb⟩ := hp.no HL.out; clear hp)
    go_ret2
    exact ⟨hb, fun h => (by rw [HL.out] at h; cases h), fun _ => rfl⟩
  · have HL := Lib.hid hl
    clear hl
    go_enter Try.func7, Try.ntmps7
    go_wp2_with (go_at_call 17; refine (zzBMP_any _ _ hs).mono ?_; intro E w1 hp; obtain ⟨v, rfl, hown, hb⟩ := hp.yes HL.out; clear hp)
    go_ret2
    exact ⟨hb, fun _ => ⟨v, rfl, hown⟩, fun h => (by rw [HL.out] at h; cases h)⟩

set_option maxHeartbeats 1000000 in
theorem implBMPZero_any (s : ByteArray) (w : World) (hs : s.size ≤ 1000) : Calls Try.prog 8 #[.string s] w (BmpPost s true w) := by
  cases hl : lowB s
  · have HL := Lib.hid hl
    clear hl
    go_enter Try.func8, Try.ntmps8
    go_wp2_with (go_at_call 18; refine (zzBMPZero_any _ _ hs).mono ?_; intro E w1 hp; obtain ⟨a, rfl, hb⟩ := hp.no HL.out; clear hp)
    go_ret2
    exact ⟨hb, fun h => (by rw [HL.out] at h; cases h), fun _ => rfl⟩
  · have HL := Lib.hid hl
    clear hl
    go_enter Try.func8, Try.ntmps8
    go_wp2_with (go_at_call 18; refine (zzBMPZero_any _ _ hs).mono ?_; intro E w1 hp; obtain ⟨v, rfl, hown, hb⟩ := hp.yes HL.out; clear hp)
    go_ret2
    exact ⟨hb, fun _ => ⟨v, rfl, hown⟩, fun h => (by rw [HL.out] at h; cases h)⟩

theorem BmpPost.yes {s : ByteArray} {e : Bool} {w w' : World} {E : Ending} (h : BmpPost s e w E w') (hl : lowB s = true) :
    ∃ v, E = .returned (.tuple #[v, .bool true]) ∧ w'.ownsRow w.heap.size 5 1 v (bytesBMP s e).length (bvals (bytesBMP s e)) ∧ Below w.heap.size w w' := by
  obtain ⟨v, h1, h2⟩ := h.2.1 hl
  exact ⟨v, h1, h2, h.1⟩
theorem BmpPost.no {s : ByteArray} {e : Bool} {w w' : World} {E : Ending} (h : BmpPost s e w E w') (hl : lowB s = false) :
    E = .returned (.tuple #[.slice none 0 0, .bool false]) ∧ Below w.heap.size w w' := ⟨h.2.2 hl, h.1⟩
end Go.Proofs.Ytlnifplomlnoiaa
