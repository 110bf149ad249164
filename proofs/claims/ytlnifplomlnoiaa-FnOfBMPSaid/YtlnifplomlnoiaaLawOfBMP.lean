/- The walk of the law FnOfBMP: it answers true at every text and byte. -/
import Derived.Test.YtlnifplomlnoiaaImplBMP
import Derived.Test.YtlnifplomlnoiaaImplOfBMP
import Derived.Test.YtlnifplomlnoiaaUtf8Law
namespace Go.Proofs.Ytlnifplomlnoiaa
open Go.RowKit

theorem R_a : lowB ⟨#[97]⟩ = true := by decide +kernel
theorem len_a : (bytesBMP ⟨#[97]⟩ false).length = 2 := by decide +kernel

set_option maxHeartbeats 1000000 in
theorem empty_any (w : World) : Calls Try.prog 12 #[] w fun E w' => E = .returned (.bool false) ∧ Below w.heap.size w w' := by
  go_enter Try.func12, Try.ntmps12
  go_wp2_with fail
  refine (implBMP_any _ _ (by decide)).mono ?_; intro E w5 hp; obtain ⟨v5, rfl, ho, hb5⟩ := hp.yes R_a; clear hp
  rw [len_a] at ho
  obtain ⟨A, c, rfl, hr⟩ := own_form ho
  clear ho hr
  go_wp2_with fail
  go_ret
  exact ⟨rfl, hb5⟩

/-- What the law's loop finds of each rune. -/
def fine (r : Nat) : Prop := r ≠ 65533 ∧ r ≠ 0 ∧ r < 65536 ∧ plainUnit r
theorem fine_of {s : ByteArray} {pos r : Nat} (h : (Utf8.decode s pos).1 = r) (h1 : r ≠ 65533) (h2 : r ≠ 0) (h3 : r < 65536) : fine r := by
  have hv := decode_valid s pos
  rw [h] at hv
  refine ⟨h1, h2, h3, ?_⟩
  unfold plainUnit
  simp [Utf8.valid] at hv
  omega

set_option maxRecDepth 1000000 in
set_option maxHeartbeats 8000000 in
theorem lawOfBMP_any (s : ByteArray) (odd : UInt8) (w : World) :
    Calls Try.prog 4 #[.string s, .int .u8 (odd.toNat : Int)] w fun e w' => e = .returned (.bool true) ∧ Below w.heap.size w w' := by
  by_cases hbig : 2147483647 < s.size
  · have hd : decide ((2147483647 : Int) < (s.size : Int)) = true := by simp; omega
    have HB := Lib.hid hbig
    clear hbig
    go_enter Try.func4, Try.ntmps4
    go_wp2_with fail
    go_ret
    exact ⟨rfl, Below.refl _ _⟩
  · have hd : decide ((2147483647 : Int) < (s.size : Int)) = false := by simp; omega
    have HB := Lib.hid hbig
    clear hbig
    have hit0 := World.iter_heap w s 0
    have hb0 : Below w.heap.size w (w.iter s 0) := (Below.refl _ _).alloc (Nat.le_refl _) _
    go_enter Try.func4, Try.ntmps4
    go_wp2_with fail
    go_loopw [6] (fun _ wr => ∃ (pos fuel : Nat) (acc : List Nat), wr.heap[w.heap.size]? = some (.stringIter s pos) ∧ Below w.heap.size w wr ∧ (0 < pos → s.size ≤ 100) ∧
        Hid (acc ++ runes s fuel pos = R s) ∧ s.size - pos ≤ fuel ∧ Hid (∀ r ∈ acc, fine r)) (fun _ wr => s.size - wr.iterPos w.heap.size)
    case atStart => exact ⟨0, s.size, [], hit0, hb0, by omega, rfl, by omega, by intro r hr; simp at hr⟩
    case round =>
      obtain ⟨pos, fuel, acc, hit, hbw, h100, HS, hf, HF⟩ := hrel
      clear hit0 hb0 hd
      by_cases hp : pos < s.size
      · have hnx : ∀ ty, (Instr.next (.pointer (some ⟨w.heap.size, 0, none⟩)) true ty).run Try.prog wr = _ := fun ty => Lib.run_next_any_at wr w.heap.size s pos ty hit hp
        obtain ⟨f, rfl⟩ : ∃ f, fuel = f + 1 := ⟨fuel - 1, by omega⟩
        have HS' := HS.out
        rw [runes_step s f pos hp] at HS'
        have hit2 := Lib.iterAt_heap wr w.heap.size s pos (pos + (Utf8.decode s pos).2) hit
        have hbw2 := Lib.below_iterAt hbw (k := w.heap.size) (Nat.le_refl _) s (pos + (Utf8.decode s pos).2)
        have hwd := decode_width s pos
        obtain ⟨W1, hW1⟩ : ∃ W1, W1 = wr.iterAt w.heap.size s (pos + (Utf8.decode s pos).2) := ⟨_, rfl⟩
        rw [← hW1] at hnx hit2 hbw2
        have hpos0 := iterPos_of hit
        obtain ⟨r, hr⟩ : ∃ r, (Utf8.decode s pos).1 = r := ⟨_, rfl⟩
        have HFI := Lib.hid (fun h1 h2 h3 => fine_of (s := s) (pos := pos) hr h1 h2 h3)
        obtain ⟨d, hd⟩ : ∃ d, (Utf8.decode s pos).2 = d := ⟨_, rfl⟩
        rw [hr] at hnx
        rw [hr, hd] at HS'
        rw [hd] at hit2 hwd
        have HS2 := Lib.hid HS'
        have HP0 := Lib.hid hpos0
        clear hr hd hW1 hit hbw hpos0 HS HS'
        by_cases c1 : r = 65533
        · have d1 : ((r : Int) == 65533) = true := by rw [beq_iff_eq]; omega
          have HC := Lib.hid c1
          clear c1
          go_wp2_with fail
          go_ret
          exact ⟨rfl, hbw2⟩
        · have d1 : ((r : Int) == 65533) = false := by rw [beq_eq_false_iff_ne]; omega
          by_cases c3 : r = 0
          · have d3 : ((r : Int) == 0) = true := by rw [beq_iff_eq]; omega
            have HC := Lib.hid c1
            have HC3 := Lib.hid c3
            clear c1 c3
            go_wp2_with fail
            go_ret
            exact ⟨rfl, hbw2⟩
          · have d3 : ((r : Int) == 0) = false := by rw [beq_eq_false_iff_ne]; omega
            by_cases c4 : r < 65536
            · have d4 : decide ((65536 : Int) ≤ (r : Int)) = false := by simp; omega
              have HFR := HFI.out c1 c3 c4
              have HC := Lib.hid c1
              have HC3 := Lib.hid c3
              have HC4 := Lib.hid c4
              have HFR' := Lib.hid HFR
              clear c1 c3 c4 HFI HFR
              by_cases c2 : 100 < s.size
              · have d2 : decide ((100 : Int) < (s.size : Int)) = true := by simp; omega
                have HC2 := Lib.hid c2
                clear c2
                go_wp2_with fail
                go_ret
                exact ⟨rfl, hbw2⟩
              · have d2 : decide ((100 : Int) < (s.size : Int)) = false := by simp; omega
                have HC2 := Lib.hid c2
                clear c2
                go_wp2_with fail
                go_roundw
                case rel =>
                  refine ⟨pos + d, f, acc ++ [r], hit2, hbw2, fun _ => by have := HC2.out; omega, ?_, by omega, ?_⟩
                  · have := HS2.out
                    show _ = _
                    rw [← this]; simp
                  · intro x hx
                    rw [List.mem_append] at hx
                    rcases hx with hx | hx
                    · exact HF.out x hx
                    · simp at hx; subst hx; exact HFR'.out
                case measure => rw [HP0.out, iterPos_of hit2]; omega
            · have d4 : decide ((65536 : Int) ≤ (r : Int)) = true := by simp; omega
              have HC := Lib.hid c1
              have HC3 := Lib.hid c3
              have HC4 := Lib.hid c4
              clear c1 c3 c4 HFI
              go_wp2_with fail
              go_ret
              exact ⟨rfl, hbw2⟩
      · have hnx := fun ty => Lib.run_next_end_at (P := Try.prog) wr w.heap.size s pos ty hit hp
        have hsm : s.size ≤ 900 := by
          rcases Nat.eq_zero_or_pos pos with h | h
          · omega
          · have := h100 h; omega
        have HS3 : acc = R s := by
          have := HS.out
          rw [runes_end s fuel pos hp] at this
          simpa using this
        rw [HS3] at HF
        have HF2 := HF.out
        have hl : lowB s = true := by
          unfold lowB
          rw [List.all_eq_true]
          intro x hx
          simpa using (HF2 x hx).2.2.1
        have hback : utf8 (R s) = s := R_back s fun r hr => (HF2 r hr).1
        have hun : ∀ r ∈ R s, plainUnit r ∧ r ≠ 0 := fun r hr => ⟨(HF2 r hr).2.2.2, (HF2 r hr).2.1⟩
        have hlen : (R s).length ≤ 900 := by have := runes_len s s.size 0; unfold R; omega
        have e0 : bytesBMP s false = unitBytes (R s) false := rfl
        have e1 : bytesBMP s true = unitBytes (R s) true := rfl
        have HL := Lib.hid hl
        have HU := Lib.hid hun
        have HBK := Lib.hid hback
        have le0 := bytesBMP_le s
        have le1 := bytesBMP_len s
        have lodd : (bytesBMP s false).length % 2 = 0 := by simp [bytesBMP, enc2_length]
        obtain ⟨n0, hn0⟩ : ∃ n0, (bytesBMP s false).length = n0 := ⟨_, rfl⟩
        obtain ⟨n1, hn1⟩ : ∃ n1, (bytesBMP s true).length = n1 := ⟨_, rfl⟩
        rw [hn0] at le0 le1 lodd
        rw [hn1] at le1
        have HN0 := Lib.hid hn0
        have HN1 := Lib.hid hn1
        have HLE := Lib.hid le1
        have HODD := Lib.hid lodd
        have HE0 := Lib.hid e0
        have HE1 := Lib.hid e1
        have hle1 : n1 ≤ 4000 := by omega
        clear h100 HB hl hun hback hn0 hn1 le1 lodd e0 e1 HS3 HF HF2 HS
        go_wp2_with fail
        refine (specBMP_any _ _ _ (by omega)).mono ?_; intro E w1 hp; obtain ⟨v1, rfl, ho1, hb1⟩ := hp.yes HL.out; clear hp
        rw [HN0.out] at ho1
        obtain ⟨A1, c1, rfl, hc1, r1⟩ := own_form2 ho1
        clear ho1
        go_wp2_with fail
        refine (specBMP_any _ _ _ (by omega)).mono ?_; intro E w2 hp; obtain ⟨v2, rfl, ho2, hb2⟩ := hp.yes HL.out; clear hp
        rw [HN1.out] at ho2
        obtain ⟨A2, c2, rfl, hc2, r2⟩ := own_form2 ho2
        clear ho2
        have r1' := r1.below hb2
        rw [HE0.out] at r1'
        rw [HE1.out] at r2
        have HR1 := Lib.hid (r1.below hb2)
        go_wp2_with fail
        refine (implOfBMP_any _ _ _ (R s) false _ _ r1' hb2.size hlen HU.out).mono ?_
        rintro E w3 ⟨rfl, hb3⟩
        rw [HBK.out]
        have r2' := r2.below hb3
        go_wp2_with fail
        refine (implOfBMP_any _ _ _ (R s) true _ _ r2' hb3.size hlen HU.out).mono ?_
        rintro E w4 ⟨rfl, hb4⟩
        rw [HBK.out]
        have s0 := hbw.size; have s1 := hb1.size; have s2 := hb2.size; have s3 := hb3.size; have s4 := hb4.size
        have r14 := ((HR1.out.below (hb3.mono s2)).below (hb4.mono (by omega)))
        go_wp2_with fail
        refine (clone_all _ _ _ (bytesBMP s false) _ _ (by omega) r14 (by omega)).mono ?_
        rintro E w5 ⟨v5, rfl, ho5, hb5⟩
        rw [HN0.out] at ho5
        have s5 := hb5.size
        have hbe : Below w.heap.size w w5 := hbw.trans ((hb1.mono s0).trans ((hb2.mono (by omega)).trans ((hb3.mono (by omega)).trans ((hb4.mono (by omega)).trans (hb5.mono (by omega))))))
        obtain ⟨i0, hi, hz0, hz1, hz2⟩ := info_parts info5
        clear r1 r1' r2 r2' r14 HR1 hb1 hb2 hb3 hb4 hb5 hbw
        go_wp2_with (at_builtin; refine wpList_append_rd _ rfl _ _ 22 rfl w4.heap.size 5 i0 (.int .u8 0) 1 Try.underlying22 hi hz0 hz1 hz2 rfl _ n0 _ rfl (ho5.alloc _) (w5.heap.size + 1) _ 1 1 [.int .u8 (odd.toNat : Int)] rfl (rd_new w5 #[.int .u8 (odd.toNat : Int)] 5 1 rfl) (by intro u hu; simp at hu; subst hu; rfl) (by omega) (by unfold maxLen; omega) (by simp; omega) ?_; intro v6 w6 ha)
        have ho6 := ha.own
        have hb6 : Below w.heap.size w w6 := (hbe.alloc (by omega) (Obj.cells #[.int .u8 (odd.toNat : Int)] 5)).grown ha.grown (by simp; omega) (fun _ hk => by have := (ho5.lt _ hk).1; omega)
        have e6 : bvals (bytesBMP s false) ++ [.int .u8 (odd.toNat : Int)] = bvals (bytesBMP s false ++ [odd]) := by simp [bvals, bval]
        rw [e6] at ho6
        obtain ⟨A6, c6, rfl, hc6, r6⟩ := own_form2 ho6
        have s6 := hb6.size
        clear ha ho6 hbe ho5 e6
        go_wp2_with fail
        refine (implOfBMP_odd _ _ _ _ _ _ r6 (Nat.le_refl _) (by have := HODD.out; omega) (by omega)).mono ?_
        rintro E w7 ⟨rfl, hb7⟩
        have hb7' := hb6.trans (hb7.mono s6)
        have s7 := hb7.size
        clear hb6 hb7 r6
        go_wp2_with fail
        refine (empty_any _).mono ?_
        rintro E w8 ⟨rfl, hb8⟩
        go_wp2_with fail
        go_ret
        exact ⟨rfl, hb7'.trans (hb8.mono (by omega))⟩
end Go.Proofs.Ytlnifplomlnoiaa
