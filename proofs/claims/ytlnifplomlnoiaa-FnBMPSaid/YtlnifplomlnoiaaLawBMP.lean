/- The walk of the law FnBMP: it answers true at every text. -/
import Derived.Test.YtlnifplomlnoiaaImplBMP
import Derived.Test.YtlnifplomlnoiaaEq
namespace Go.Proofs.Ytlnifplomlnoiaa
open Go.RowKit

theorem equal_same (A B : Option Addr) (n c d : Nat) (xs : List UInt8) (w : World) (Bx By : Nat) (hx : Rd w Bx A n (bvals xs)) (hy : Rd w By B n (bvals xs)) (hn : n ≤ 4611686018427387904) :
    Calls Try.prog 9 #[.slice A n c, .slice B n d] w fun e w' => e = .returned (.bool true) ∧ ∃ k, w' = w.drewN k :=
  (equal_any A B n n c d xs xs w Bx By hx hy hn).mono fun e w' h => ⟨by rw [h.1]; simp, h.2⟩

theorem R_a : lowB ⟨#[97]⟩ = true := by decide +kernel

set_option maxRecDepth 1000000 in
set_option maxHeartbeats 4000000 in
theorem lawBMP_any (s : ByteArray) (w : World) :
    Calls Try.prog 3 #[.string s] w fun e w' => e = .returned (.bool true) ∧ Below w.heap.size w w' := by
  by_cases hbig : 2147483647 < s.size
  · have hd : decide ((2147483647 : Int) < (s.size : Int)) = true := by simp; omega
    have HB := Lib.hid hbig
    clear hbig
    go_enter Try.func3, Try.ntmps3
    go_wp2_with fail
    go_ret
    exact ⟨rfl, Below.refl _ _⟩
  · have hd : decide ((2147483647 : Int) < (s.size : Int)) = false := by simp; omega
    have HB := Lib.hid hbig
    clear hbig
    have hit0 := World.iter_heap w s 0
    have hb0 : Below w.heap.size w (w.iter s 0) := (Below.refl _ _).alloc (Nat.le_refl _) _
    go_enter Try.func3, Try.ntmps3
    go_wp2_with fail
    go_loopw [4] (fun _ wr => ∃ pos : Nat, wr.heap[w.heap.size]? = some (.stringIter s pos) ∧ Below w.heap.size w wr ∧ (0 < pos → s.size ≤ 100)) (fun _ wr => s.size - wr.iterPos w.heap.size)
    case atStart => exact ⟨0, hit0, hb0, by omega⟩
    case round =>
      obtain ⟨pos, hit, hbw, h100⟩ := hrel
      clear hit0 hb0 hd
      by_cases hp : pos < s.size
      · have hnx : ∀ ty, (Instr.next (.pointer (some ⟨w.heap.size, 0, none⟩)) true ty).run Try.prog wr = _ := fun ty => Lib.run_next_any_at wr w.heap.size s pos ty hit hp
        have hit2 := Lib.iterAt_heap wr w.heap.size s pos (pos + (Utf8.decode s pos).2) hit
        have hbw2 := Lib.below_iterAt hbw (k := w.heap.size) (Nat.le_refl _) s (pos + (Utf8.decode s pos).2)
        have hwd := decode_width s pos
        obtain ⟨W1, hW1⟩ : ∃ W1, W1 = wr.iterAt w.heap.size s (pos + (Utf8.decode s pos).2) := ⟨_, rfl⟩
        rw [← hW1] at hnx hit2 hbw2
        have hpos0 := iterPos_of hit
        obtain ⟨r, hr⟩ : ∃ r, (Utf8.decode s pos).1 = r := ⟨_, rfl⟩
        obtain ⟨d, hd⟩ : ∃ d, (Utf8.decode s pos).2 = d := ⟨_, rfl⟩
        rw [hr] at hnx
        rw [hd] at hit2 hwd
        have HP0 := Lib.hid hpos0
        clear hr hd hW1 hit hbw hpos0
        by_cases c1 : r = 65533
        · have d1 : ((r : Int) == 65533) = true := by rw [beq_iff_eq]; omega
          have HC := Lib.hid c1
          clear c1
          go_wp2_with fail
          go_ret
          exact ⟨rfl, hbw2⟩
        · have d1 : ((r : Int) == 65533) = false := by rw [beq_eq_false_iff_ne]; omega
          have HC := Lib.hid c1
          clear c1
          by_cases c2 : 100 < s.size
          · have d2 : decide ((100 : Int) < (s.size : Int)) = true := by simp; omega
            have HC2 := Lib.hid c2
            clear c2
            go_wp2_with fail
            go_ret
            exact ⟨rfl, hbw2⟩
          · have d2 : decide ((100 : Int) < (s.size : Int)) = false := by simp; omega
            have HC2 := Lib.hid c2
            clear c2
            go_wp2_with fail
            go_roundw
            case rel => exact ⟨pos + d, hit2, hbw2, fun _ => by have := HC2.out; omega⟩
            case measure => rw [HP0.out, iterPos_of hit2]; omega
      · have hnx := fun ty => Lib.run_next_end_at (P := Try.prog) wr w.heap.size s pos ty hit hp
        have hsm : s.size ≤ 1000 := by
          rcases Nat.eq_zero_or_pos pos with h | h
          · omega
          · have := h100 h; omega
        clear h100 HB
        cases hl : lowB s
        · have HL := Lib.hid hl
          clear hl
          go_wp2_with fail
          refine (specBMP_any _ _ _ hsm).mono ?_; intro E w1 hp; obtain ⟨rfl, hb1⟩ := hp.no HL.out; clear hp
          go_wp2_with fail
          refine (specBMP_any _ _ _ hsm).mono ?_; intro E w2 hp; obtain ⟨rfl, hb2⟩ := hp.no HL.out; clear hp
          go_wp2_with fail
          refine (implBMP_any _ _ hsm).mono ?_; intro E w3 hp; obtain ⟨rfl, hb3⟩ := hp.no HL.out; clear hp
          go_wp2_with fail
          refine (implBMPZero_any _ _ hsm).mono ?_; intro E w4 hp; obtain ⟨rfl, hb4⟩ := hp.no HL.out; clear hp
          go_wp2_with fail
          refine (implBMP_any _ _ (by decide)).mono ?_; intro E w5 hp; obtain ⟨v5, rfl, _, hb5⟩ := hp.yes R_a; clear hp
          go_wp2_with fail
          go_ret
          refine ⟨rfl, ?_⟩
          have s1 := hb1.size; have s2 := hb2.size; have s3 := hb3.size; have s4 := hb4.size; have s0 := hbw.size
          exact hbw.trans ((hb1.mono s0).trans ((hb2.mono (by omega)).trans ((hb3.mono (by omega)).trans ((hb4.mono (by omega)).trans (hb5.mono (by omega))))))
        · have HL := Lib.hid hl
          have le0 := bytesBMP_le s
          have le1 := bytesBMP_len s
          clear hl
          obtain ⟨n0, hn0⟩ : ∃ n0, (bytesBMP s false).length = n0 := ⟨_, rfl⟩
          obtain ⟨n1, hn1⟩ : ∃ n1, (bytesBMP s true).length = n1 := ⟨_, rfl⟩
          rw [hn0] at le0 le1
          rw [hn1] at le1
          have HN0 := Lib.hid hn0
          have HN1 := Lib.hid hn1
          have HLE := Lib.hid le1
          clear hn0 hn1 le1
          have hle1 : n1 ≤ 4000 := by have := HLE.out; omega
          go_wp2_with fail
          refine (specBMP_any _ _ _ hsm).mono ?_; intro E w1 hp; obtain ⟨v1, rfl, ho1, hb1⟩ := hp.yes HL.out; clear hp
          rw [HN0.out] at ho1
          obtain ⟨A1, c1, rfl, r1⟩ := own_form ho1
          clear ho1
          go_wp2_with fail
          refine (specBMP_any _ _ _ hsm).mono ?_; intro E w2 hp; obtain ⟨v2, rfl, ho2, hb2⟩ := hp.yes HL.out; clear hp
          rw [HN1.out] at ho2
          obtain ⟨A2, c2, rfl, r2⟩ := own_form ho2
          clear ho2
          go_wp2_with fail
          refine (implBMP_any _ _ hsm).mono ?_; intro E w3 hp; obtain ⟨v3, rfl, ho3, hb3⟩ := hp.yes HL.out; clear hp
          rw [HN0.out] at ho3
          obtain ⟨A3, c3, rfl, r3⟩ := own_form ho3
          clear ho3
          go_wp2_with fail
          refine (implBMPZero_any _ _ hsm).mono ?_; intro E w4 hp; obtain ⟨v4, rfl, ho4, hb4⟩ := hp.yes HL.out; clear hp
          rw [HN1.out] at ho4
          obtain ⟨A4, c4, rfl, r4⟩ := own_form ho4
          clear ho4
          go_wp2_with fail
          refine (implBMP_any _ _ (by decide)).mono ?_; intro E w5 hp; obtain ⟨v5, rfl, _, hb5⟩ := hp.yes R_a; clear hp
          have s1 := hb1.size; have s2 := hb2.size; have s3 := hb3.size; have s4 := hb4.size; have s5 := hb5.size; have s0 := hbw.size
          have q1 := (((r1.below hb2).below (hb3.mono s2)).below (hb4.mono (by omega))).below (hb5.mono (by omega))
          have q2 := ((r2.below hb3).below (hb4.mono s3)).below (hb5.mono (by omega))
          have q3 := (r3.below hb4).below (hb5.mono s4)
          have q4 := r4.below hb5
          have hbe : Below w.heap.size w w5 := hbw.trans ((hb1.mono s0).trans ((hb2.mono (by omega)).trans ((hb3.mono (by omega)).trans ((hb4.mono (by omega)).trans (hb5.mono (by omega))))))
          clear r1 r2 r3 r4 hb1 hb2 hb3 hb4 hb5 hbw
          go_wp2_with fail
          refine (equal_same _ _ _ _ _ _ _ _ _ q3 q1 (by omega)).mono ?_
          rintro E w6 ⟨rfl, k6, rfl⟩
          go_wp2_with fail
          refine (equal_same _ _ _ _ _ _ _ _ _ (q4.drewN k6) (q2.drewN k6) (by omega)).mono ?_
          rintro E w7 ⟨rfl, k7, rfl⟩
          go_wp2_with fail
          go_ret
          exact ⟨rfl, below_drewN hbe _⟩
end Go.Proofs.Ytlnifplomlnoiaa
