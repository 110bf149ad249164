/- The reference's BMP: a text whose runes all lie below 2^16 has two bytes for each, and two noughts behind, where they are asked; another text has none. Texts of at most 1000 bytes. -/
import Derived.Test.YtlnifplomlnoiaaRunes
import Derived.Test.YtlnifplomlnoiaaProg
namespace Go.Proofs.Ytlnifplomlnoiaa
open Go.RowKit

theorem info5 : (Try.prog.info? 5).map (fun i => (i.zero, i.size, i.bytes)) = some (some (.int .u8 0), 1, 1) := by kernel_rfl

def bytesBMP (s : ByteArray) (e : Bool) : List UInt8 := enc2 (R s) ++ if e then [0, 0] else []

/-- What a call of BMP hands back. -/
def BmpPost (s : ByteArray) (e : Bool) (w : World) (E : Ending) (w' : World) : Prop :=
  Below w.heap.size w w' ∧
  (lowB s = true → ∃ v, E = .returned (.tuple #[v, .bool true]) ∧ w'.ownsRow w.heap.size 5 1 v (bytesBMP s e).length (bvals (bytesBMP s e))) ∧
  (lowB s = false → E = .returned (.tuple #[.slice none 0 0, .bool false]))

set_option maxRecDepth 1000000 in
set_option maxHeartbeats 1000000 in
theorem specBMP_any (s : ByteArray) (e : Bool) (w : World) (hs : s.size ≤ 1000) :
    Calls Try.prog 6 #[.string s, .bool e] w (BmpPost s e w) := by
  obtain ⟨i0, hi, hz0, hz1, hz2⟩ := info_parts info5
  go_enter Try.func6, Try.ntmps6
  go_wp2_with fail
  have hmade : ((w.alloc (Obj.cells #[] 5)).iter s 0).ownsRow w.heap.size 5 1 (.slice (some ⟨w.heap.size, 0, none⟩) 0 0) 0 (bvals (enc2 [])) :=
    (World.ownsRow_made w #[] 0 (Nat.le_refl _) (by unfold maxLen; omega) rfl).alloc _
  have hit0 := World.iter_heap (w.alloc (Obj.cells #[] 5)) s 0
  have hb0 : Below w.heap.size w ((w.alloc (Obj.cells #[] 5)).iter s 0) := ((Below.refl _ _).alloc (Nat.le_refl _) _).alloc (by simp) _
  simp only [World.size_alloc] at hit0
  go_loopw [6] (fun v wr => ∃ (pos fuel : Nat) (acc : List Nat), wr.heap[w.heap.size + 1]? = some (.stringIter s pos) ∧ wr.ownsRow w.heap.size 5 1 v (2 * acc.length) (bvals (enc2 acc)) ∧ Below w.heap.size w wr ∧
      Hid (acc ++ runes s fuel pos = R s) ∧ s.size - pos ≤ fuel ∧ acc.length ≤ pos ∧ acc.length ≤ s.size ∧ (∀ r ∈ acc, r < 65536)) (fun _ wr => s.size - wr.iterPos (w.heap.size + 1))
  case atStart => exact ⟨0, s.size, [], hit0, hmade, hb0, rfl, by omega, by simp, by simp, by simp⟩
  case round =>
    obtain ⟨pos, fuel, acc, hit, hown, hbw, HS, hf, hl, hls, hlow⟩ := hrel
    by_cases hp : pos < s.size
    · have hnx : ∀ ty, (Instr.next (.pointer (some ⟨w.heap.size + 1, 0, none⟩)) true ty).run Try.prog wr = _ := fun ty => Lib.run_next_any_at wr (w.heap.size + 1) s pos ty hit hp
      obtain ⟨f, rfl⟩ : ∃ f, fuel = f + 1 := ⟨fuel - 1, by omega⟩
      have HS' := HS.out
      rw [runes_step s f pos hp] at HS'
      have hit2 := Lib.iterAt_heap wr (w.heap.size + 1) s pos (pos + (Utf8.decode s pos).2) hit
      have hown2 := own_iterAt hown hit (pos + (Utf8.decode s pos).2)
      have hbw2 := Lib.below_iterAt hbw (k := w.heap.size + 1) (by omega) s (pos + (Utf8.decode s pos).2)
      have hwd := decode_width s pos
      obtain ⟨W1, hW1⟩ : ∃ W1, W1 = wr.iterAt (w.heap.size + 1) s (pos + (Utf8.decode s pos).2) := ⟨_, rfl⟩
      rw [← hW1] at hnx hit2 hown2 hbw2
      have hpos0 := iterPos_of hit
      obtain ⟨r, hr⟩ : ∃ r, (Utf8.decode s pos).1 = r := ⟨_, rfl⟩
      obtain ⟨d, hd⟩ : ∃ d, (Utf8.decode s pos).2 = d := ⟨_, rfl⟩
      rw [hr] at hnx
      rw [hr, hd] at HS'
      rw [hd] at hit2 hwd
      have HS2 := Lib.hid HS'
      have HP0 := Lib.hid hpos0
      have HL := Lib.hid hlow
      clear hlow hmade hit0 hb0 hr hd hW1 hit hown hbw HS HS' hpos0
      by_cases hlo : r < 65536
      · have hlo' : (r : Int) < 65536 := by omega
        have hdec : decide ((65536 : Int) ≤ (r : Int)) = false := by simp; omega
        have hrm : (r : Int) ≤ 65535 := by omega
        have HLO := Lib.hid hlo
        clear hlo hlo'
        go_wp2_with (at_builtin; refine wpList_append_own _ rfl _ _ 22 rfl w.heap.size 5 i0 (.int .u8 0) 1 1 Try.underlying22 hi hz0 hz1 hz2 rfl (by decide) _ _ _ rfl (hown2.alloc _) ⟨W1.heap.size, 0, none⟩ 2 2 [.int .u8 ((r : Int) / 256), .int .u8 ((r : Int) % 256)] rfl rfl ?c1 ?c2 ?c3 ?c4 ?c5 ?_)
        case c1 => exact two_new _ _ _ _
        case c2 => intro u hu; simp at hu; rcases hu with rfl | rfl <;> rfl
        case c3 => unfold maxLen; omega
        case c4 => omega
        case c5 => have := hbw2.size; simp; omega
        intro v' w1 hown' hgrow _
        have hr6 := HLO.out
        have hown3 : w1.ownsRow w.heap.size 5 1 v' (2 * (acc ++ [r]).length) (bvals (enc2 (acc ++ [r]))) := by
          rw [enc2_snoc _ _ hr6]
          have e : 2 * (acc ++ [r]).length = 2 * acc.length + 2 := by simp; omega
          rw [e]
          exact hown'
        have hne := own_ne_iter hown2 hit2
        have hit3 := iter_grown (iter_alloc hit2 (Obj.cells #[.int .u8 ((r : Int) / 256), .int .u8 ((r : Int) % 256)] 5)) hgrow hne
        have hbw3 : Below w.heap.size w w1 := (hbw2.alloc hbw2.size (Obj.cells #[.int .u8 ((r : Int) / 256), .int .u8 ((r : Int) % 256)] 5)).grown hgrow (by have := hbw2.size; simp; omega) (fun k hk => (hown2.lt _ hk).1)
        clear hown' hgrow hown2 hit2 hbw2
        go_wp2_with fail
        go_roundw
        case rel =>
          refine ⟨pos + d, f, acc ++ [r], hit3, hown3, hbw3, ?_, by omega, by simp; omega, by simp; omega, ?_⟩
          · have := HS2.out
            show _ = _
            rw [← this]; simp
          · intro x hx
            rw [List.mem_append] at hx
            rcases hx with hx | hx
            · exact HL.out x hx
            · simp at hx; omega
        case measure =>
          rw [HP0.out, iterPos_of hit3]; omega
      · have hge : decide ((65536 : Int) ≤ (r : Int)) = true := by simp; omega
        have hlow' : lowB s = false := by
          have hm : r ∈ R s := by
            have := HS2.out
            show _ ∈ R s
            rw [← this]; simp
          unfold lowB
          rw [List.all_eq_false]
          exact ⟨r, hm, by simpa using hlo⟩
        have HLO := Lib.hid hlow'
        clear hlo hlow'
        go_wp2_with fail
        go_ret2
        exact ⟨hbw2, fun h => (by rw [HLO.out] at h; cases h), fun _ => rfl⟩
    · have hnx := fun ty => Lib.run_next_end_at (P := Try.prog) wr (w.heap.size + 1) s pos ty hit hp
      have HS3 : acc = R s := by
        have := HS.out
        rw [runes_end s fuel pos hp] at this
        simpa using this
      have HS4 := Lib.hid HS3
      have HL := Lib.hid hlow
      clear HS3 HS hlow hmade hit0 hb0
      have hlow' : lowB s = true := by
        unfold lowB
        rw [List.all_eq_true]
        intro x hx
        rw [← HS4.out] at hx
        simpa using HL.out x hx
      have HLO := Lib.hid hlow'
      clear hlow'
      cases e
      · go_wp2_with fail
        go_ret2
        refine ⟨hbw, fun _ => ⟨u6, rfl, ?_⟩, fun h => (by rw [HLO.out] at h; cases h)⟩
        have e1 : bytesBMP s false = enc2 acc := by rw [HS4.out]; simp [bytesBMP]
        rw [e1, enc2_length]
        exact hown
      · go_wp2_with (at_builtin; refine wpList_append_own _ rfl _ _ 22 rfl w.heap.size 5 i0 (.int .u8 0) 1 1 Try.underlying22 hi hz0 hz1 hz2 rfl (by decide) _ _ _ rfl (hown.alloc _) ⟨wr.heap.size, 0, none⟩ 2 2 [.int .u8 0, .int .u8 0] rfl rfl ?d1 ?d2 ?d3 ?d4 ?d5 ?_)
        case d1 => exact two_new _ _ _ _
        case d2 => intro u hu; simp at hu; subst hu; rfl
        case d3 => unfold maxLen; have := hls; omega
        case d4 => have := hls; omega
        case d5 => have := hbw.size; simp; omega
        intro v' w1 hown' hgrow _
        have hbw3 : Below w.heap.size w w1 := (hbw.alloc hbw.size (Obj.cells #[.int .u8 0, .int .u8 0] 5)).grown hgrow (by have := hbw.size; simp; omega) (fun k hk => (hown.lt _ hk).1)
        clear hgrow
        go_wp2_with fail
        go_ret2
        refine ⟨hbw3, fun _ => ⟨v', rfl, ?_⟩, fun h => (by rw [HLO.out] at h; cases h)⟩
        have e1 : bytesBMP s true = enc2 acc ++ [0, 0] := by rw [HS4.out]; simp [bytesBMP]
        rw [e1, bvals_append, List.length_append, enc2_length]
        exact hown'
end Go.Proofs.Ytlnifplomlnoiaa
