/- The package's bmpString and bmpStringZeroTerminated: the reference's bytes where all runes lie below 2^16, else an error that is not nil. Texts of at most 1000 bytes. -/
import Derived.Test.YtlnifplomlnoiaaSpecBMP
import Derived.Test.YtlnifplomlnoiaaEnc
namespace Go.Proofs.Ytlnifplomlnoiaa
open Go.RowKit

def BmpErr (s : ByteArray) (e : Bool) (w : World) (E : Ending) (w' : World) : Prop :=
  Below w.heap.size w w' ∧
  (lowB s = true → ∃ v, E = .returned (.tuple #[v, .nilIface]) ∧ w'.ownsRow w.heap.size 5 1 v (bytesBMP s e).length (bvals (bytesBMP s e))) ∧
  (lowB s = false → ∃ a, E = .returned (.tuple #[.slice none 0 0, .iface 87 (.pointer (some a))]))

set_option maxRecDepth 1000000 in
set_option maxHeartbeats 1000000 in
theorem bmpString_any (s : ByteArray) (w : World) (hs : s.size ≤ 1000) :
    Calls Try.prog 29 #[.string s] w (BmpErr s false w) := by
  obtain ⟨i0, hi, hz0, hz1, hz2⟩ := info_parts info5
  go_enter Try.func29, Try.ntmps29
  go_wp2_with (refine wpList_make_own _ rfl _ _ 22 rfl w.heap.size 5 i0 (.int .u8 0) 1 Try.underlying22 hi hz0 hz1 _ _ _ (2 * s.size + 2) rfl rfl (by simp) (by rw [hz2]; omega) (by unfold maxLen; omega) (Nat.le_refl _) ?_; intro w1 hown0 hg0; obtain ⟨B, hB⟩ : ∃ B, w1.heap.size = B := ⟨_, rfl⟩)
  have hbw0 : Below w.heap.size w w1 := (Below.refl _ _).grown hg0 (Nat.le_refl _) (fun k hk => by cases hk)
  clear hg0
  have hit0 := World.iter_heap w1 s 0
  rw [hB] at hit0
  have hBw : w.heap.size ≤ B := by have := hbw0.size; omega
  have hb0 : Below w.heap.size w (w1.iter s 0) := hbw0.alloc hbw0.size _
  have hmade : (w1.iter s 0).ownsRow w.heap.size 5 1 (.slice (some ⟨w.heap.size, 0, none⟩) 0 (2 * s.size + 2)) 0 (bvals (enc2 [])) := hown0.alloc _
  go_loopw [4] (fun v wr => ∃ (pos fuel : Nat) (acc : List Nat), wr.heap[B]? = some (.stringIter s pos) ∧ wr.ownsRow w.heap.size 5 1 v (2 * acc.length) (bvals (enc2 acc)) ∧ Below w.heap.size w wr ∧
      Hid (acc ++ runes s fuel pos = R s) ∧ s.size - pos ≤ fuel ∧ acc.length ≤ pos ∧ acc.length ≤ s.size ∧ (∀ r ∈ acc, r < 65536)) (fun _ wr => s.size - wr.iterPos B)
  case atStart => exact ⟨0, s.size, [], hit0, hmade, hb0, rfl, by omega, by simp, by simp, by simp⟩
  case round =>
    obtain ⟨pos, fuel, acc, hit, hown, hbw, HS, hf, hl, hls, hlow⟩ := hrel
    have HB := Lib.hid hB
    clear hB hit0 hb0 hmade hbw0 hown0
    by_cases hp : pos < s.size
    · have hnx : ∀ ty, (Instr.next (.pointer (some ⟨B, 0, none⟩)) true ty).run Try.prog wr = _ := fun ty => Lib.run_next_any_at wr B s pos ty hit hp
      obtain ⟨f, rfl⟩ : ∃ f, fuel = f + 1 := ⟨fuel - 1, by omega⟩
      have HS' := HS.out
      rw [runes_step s f pos hp] at HS'
      have hit2 := Lib.iterAt_heap wr B s pos (pos + (Utf8.decode s pos).2) hit
      have hown2 := own_iterAt hown hit (pos + (Utf8.decode s pos).2)
      have hbw2 := Lib.below_iterAt hbw (k := B) hBw s (pos + (Utf8.decode s pos).2)
      have hwd := decode_width s pos
      have hmax := decode_max s pos
      obtain ⟨W1, hW1⟩ : ∃ W1, W1 = wr.iterAt B s (pos + (Utf8.decode s pos).2) := ⟨_, rfl⟩
      rw [← hW1] at hnx hit2 hown2 hbw2
      have hpos0 := iterPos_of hit
      obtain ⟨r, hr⟩ : ∃ r, (Utf8.decode s pos).1 = r := ⟨_, rfl⟩
      obtain ⟨d, hd⟩ : ∃ d, (Utf8.decode s pos).2 = d := ⟨_, rfl⟩
      rw [hr] at hnx hmax
      rw [hr, hd] at HS'
      rw [hd] at hit2 hwd
      have HS2 := Lib.hid HS'
      have HP0 := Lib.hid hpos0
      have HL := Lib.hid hlow
      have HM := Lib.hid hmax
      clear hlow hr hd hW1 hit hown hbw HS HS' hpos0 hmax
      by_cases hlo : r < 65536
      · have hrm : (r : Int) ≤ 65535 := by omega
        have hr0 : (0 : Int) ≤ (r : Int) := by omega
        have HLO := Lib.hid hlo
        clear hlo
        go_wp2_with (first
          | (go_at_call 38; refine (encode_low _ _ hr0 hrm).mono ?_; rintro E w' ⟨rfl, rfl⟩)
          | (at_builtin; refine wpList_append_own _ rfl _ _ 22 rfl w.heap.size 5 i0 (.int .u8 0) 1 1 Try.underlying22 hi hz0 hz1 hz2 rfl (by decide) _ _ _ rfl (hown2.alloc _) ⟨W1.heap.size, 0, none⟩ 2 2 [.int .u8 ((r : Int) / 256), .int .u8 ((r : Int) % 256)] rfl rfl ?c1 ?c2 ?c3 ?c4 ?c5 ?_))
        case c1 => exact two_new _ _ _ _
        case c2 => intro u hu; simp at hu; rcases hu with rfl | rfl <;> rfl
        case c3 => unfold maxLen; omega
        case c4 => omega
        case c5 => have := hbw2.size; simp; omega
        intro v' w1' hown' hgrow _
        have hr6 := HLO.out
        have hown3 : w1'.ownsRow w.heap.size 5 1 v' (2 * (acc ++ [r]).length) (bvals (enc2 (acc ++ [r]))) := by
          rw [enc2_snoc _ _ hr6]
          have e : 2 * (acc ++ [r]).length = 2 * acc.length + 2 := by simp; omega
          rw [e]
          exact hown'
        have hne := own_ne_iter hown2 hit2
        have hit3 := iter_grown (iter_alloc hit2 (Obj.cells #[.int .u8 ((r : Int) / 256), .int .u8 ((r : Int) % 256)] 5)) hgrow hne
        have hbw3 : Below w.heap.size w w1' := (hbw2.alloc hbw2.size (Obj.cells #[.int .u8 ((r : Int) / 256), .int .u8 ((r : Int) % 256)] 5)).grown hgrow (by have := hbw2.size; simp; omega) (fun k hk => (hown2.lt _ hk).1)
        clear hown' hgrow hown2 hit2 hbw2
        go_wp2_with fail
        go_roundw
        case rel =>
          refine ⟨pos + d, f, acc ++ [r], hit3, hown3, hbw3, ?_, by omega, by simp; omega, by simp; omega, ?_⟩
          · have := HS2.out
            show _ = _
            rw [← this]; simp
          · intro x hx
            rw [List.mem_append] at hx
            rcases hx with hx | hx
            · exact HL.out x hx
            · simp at hx; omega
        case measure =>
          rw [HP0.out, iterPos_of hit3]; omega
      · have hlow' : lowB s = false := by
          have hm : r ∈ R s := by
            have := HS2.out
            show _ ∈ R s
            rw [← this]; simp
          unfold lowB
          rw [List.all_eq_false]
          exact ⟨r, hm, by simpa using hlo⟩
        have HLO := Lib.hid hlow'
        have hr0 : (65536 : Int) ≤ (r : Int) := by omega
        have hr1 : (r : Int) ≤ 1114111 := by have := HM.out; omega
        clear hlo hlow'
        go_wp2_with (first
          | (go_at_call 38; refine (encode_high _ _ hr0 hr1).mono ?_; rintro E w' ⟨⟨a, b, rfl, hab⟩, rfl⟩; clear hr0 hr1)
          | (go_at_call 39; refine (new_any _ _).mono ?_; rintro E w2 ⟨rfl, hb2⟩))
        go_ret2
        exact ⟨hbw2.trans (hb2.mono hbw2.size), fun h => (by rw [HLO.out] at h; cases h), fun _ => ⟨_, rfl⟩⟩
    · have hnx := fun ty => Lib.run_next_end_at (P := Try.prog) wr B s pos ty hit hp
      have HS3 : acc = R s := by
        have := HS.out
        rw [runes_end s fuel pos hp] at this
        simpa using this
      have HS4 := Lib.hid HS3
      have HL := Lib.hid hlow
      have hlow' : lowB s = true := by
        unfold lowB
        rw [List.all_eq_true]
        intro x hx
        rw [← HS4.out] at hx
        simpa using HL.out x hx
      have HLO := Lib.hid hlow'
      clear hlow' HS3 HS hlow
      go_wp2_with fail
      go_ret2
      refine ⟨hbw, fun _ => ⟨u4, rfl, ?_⟩, fun h => (by rw [HLO.out] at h; cases h)⟩
      have e1 : bytesBMP s false = enc2 acc := by rw [HS4.out]; simp [bytesBMP]
      rw [e1, enc2_length]
      exact hown

/-- What is known of a call's end where all runes are low, and where they aren't. -/
theorem BmpErr.yes {s : ByteArray} {e : Bool} {w w' : World} {E : Ending} (h : BmpErr s e w E w') (hl : lowB s = true) :
    ∃ v, E = .returned (.tuple #[v, .nilIface]) ∧ w'.ownsRow w.heap.size 5 1 v (bytesBMP s e).length (bvals (bytesBMP s e)) ∧ Below w.heap.size w w' := by
  obtain ⟨v, h1, h2⟩ := h.2.1 hl
  exact ⟨v, h1, h2, h.1⟩
theorem BmpErr.no {s : ByteArray} {e : Bool} {w w' : World} {E : Ending} (h : BmpErr s e w E w') (hl : lowB s = false) :
    ∃ a, E = .returned (.tuple #[.slice none 0 0, .iface 87 (.pointer (some a))]) ∧ Below w.heap.size w w' := by
  obtain ⟨a, h1⟩ := h.2.2 hl
  exact ⟨a, h1, h.1⟩
theorem bytesBMP_true (s : ByteArray) : bvals (bytesBMP s true) = bvals (bytesBMP s false) ++ [.int .u8 0, .int .u8 0] := by
  simp [bytesBMP, bvals, bval]
theorem bytesBMP_len (s : ByteArray) : (bytesBMP s true).length = (bytesBMP s false).length + 2 := by simp [bytesBMP]
theorem runes_len (s : ByteArray) : ∀ f pos, (runes s f pos).length ≤ f
  | 0, _ => by simp [runes]
  | f + 1, pos => by
    unfold runes
    split
    · have := runes_len s f (pos + (Utf8.decode s pos).2)
      simp only [List.length_cons]
      omega
    · simp
theorem bytesBMP_le (s : ByteArray) : (bytesBMP s false).length ≤ 2 * s.size := by
  have := runes_len s s.size 0
  simp [bytesBMP, enc2_length, R]
  omega

set_option maxHeartbeats 1000000 in
theorem bmpZero_any (s : ByteArray) (w : World) (hs : s.size ≤ 1000) :
    Calls Try.prog 30 #[.string s] w (BmpErr s true w) := by
  obtain ⟨i0, hi, hz0, hz1, hz2⟩ := info_parts info5
  cases hl : lowB s
  · have HL := Lib.hid hl
    clear hl
    go_enter Try.func30, Try.ntmps30
    go_wp2_with (go_at_call 29; refine (bmpString_any _ _ hs).mono ?_; intro E w1 hp; obtain ⟨a, rfl, hb⟩ := hp.no HL.out; clear hp)
    go_ret2
    exact ⟨hb, fun h => (by rw [HL.out] at h; cases h), fun _ => ⟨a, rfl⟩⟩
  · have HL := Lib.hid hl
    have hle := bytesBMP_le s
    clear hl
    go_enter Try.func30, Try.ntmps30
    go_wp2_with (first
      | (go_at_call 29; refine (bmpString_any _ _ hs).mono ?_; intro E w1 hp; obtain ⟨v, rfl, hown, hb⟩ := hp.yes HL.out; clear hp)
      | (at_builtin; refine wpList_append_own _ rfl _ _ 22 rfl w.heap.size 5 i0 (.int .u8 0) 1 1 Try.underlying22 hi hz0 hz1 hz2 rfl (by decide) _ _ _ rfl (hown.alloc _) ⟨w1.heap.size, 0, none⟩ 2 2 [.int .u8 0, .int .u8 0] rfl rfl ?d1 ?d2 ?d3 ?d4 ?d5 ?_))
    case d1 => exact two_new _ _ _ _
    case d2 => intro u hu; simp at hu; subst hu; rfl
    case d3 => unfold maxLen; omega
    case d4 => omega
    case d5 => have := hb.size; simp; omega
    intro v' w2 hown' hgrow _
    have hb2 : Below w.heap.size w w2 := (hb.alloc hb.size (Obj.cells #[.int .u8 0, .int .u8 0] 5)).grown hgrow (by have := hb.size; simp; omega) (fun k hk => (hown.lt _ hk).1)
    clear hgrow
    go_wp2_with fail
    go_ret2
    refine ⟨hb2, fun _ => ⟨v', rfl, ?_⟩, fun h => (by rw [HL.out] at h; cases h)⟩
    rw [bytesBMP_true, bytesBMP_len]
    exact hown'
end Go.Proofs.Ytlnifplomlnoiaa
