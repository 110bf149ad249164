/- The law FnBlockBack: what is encrypted and decrypted is what it was. -/
import Derived.Test.YtlnifplomlnoiaaDoorBlock
namespace Go.Proofs.YtlnifplomlnoiaaDoor
open Go.RowKit

theorem crypt_back (K : Nat → Int) (s : S4) (h : Ok4 s) : crypt false K (crypt true K s) = s := by
  unfold crypt
  rw [if_neg (by decide), if_pos rfl]
  exact dec_enc K s h

set_option maxRecDepth 1000000 in
set_option maxHeartbeats 4000000 in
theorem lawBack_any (T : Nat → Nat) (A : Option Addr) (n c : Nat) (t : Int) (key blk : List UInt8) (w : World) (hT : TabAt w T) (hTb : ∀ x, T x ≤ 255) (hr : Rd w w.heap.size A n (bvals key)) (hb : blk.length = 8) (h0 : 0 < w.heap.size) :
    Calls Tryd.prog 3 #[.slice A n c, .int .i64 t, .agg (bvals blk).toArray] w fun E w' => E = .returned (.bool true) ∧ Below w.heap.size w w' := by
  obtain ⟨X, hX⟩ : ∃ X, bvals blk = X := ⟨_, rfl⟩
  have HX := Lib.hid hX
  rw [hX]
  clear hX
  have HT := Lib.hid hT
  have HTb := Lib.hid hTb
  have HR := Lib.hid hr
  have HB := Lib.hid hb
  have H0 := Lib.hid h0
  clear hT hTb hr hb h0
  by_cases hbig : n ≤ 2147483647
  · have b1 : decide ((2147483647 : Int) < (n : Int)) = false := by simp; omega
    cases hk : keyOk n t with
    | false =>
      go_enter Tryd.func3, Tryd.ntmps3
      go_wp2_with (refine wpList_box_arr rfl 23 (.tmp 2) rfl X rfl ?_; intro w1 g1 HG1 hB1 hb1 hs1; replace hB1 := Lib.hid hB1)
      refine (keyOk_any A n c t _).mono ?_
      rintro E w2 ⟨rfl, rfl⟩
      rw [hk]
      go_wp2_with fail
      go_ret
      exact ⟨rfl, hb1⟩
    | true =>
      have hk' : 1 ≤ n ∧ n ≤ 128 ∧ 1 ≤ t ∧ t ≤ 1024 := by simpa [keyOk] using hk
      obtain ⟨t1, rfl⟩ : ∃ t1 : Nat, t = (t1 : Int) := ⟨t.toNat, by omega⟩
      obtain ⟨k1, k2, k3, k4⟩ := hk'
      go_enter Tryd.func3, Tryd.ntmps3
      go_wp2_with (refine wpList_box_arr rfl 23 (.tmp 2) rfl X rfl ?_; intro w1 g1 HG1 hB1 hb1 hs1; replace hB1 := Lib.hid hB1)
      refine (keyOk_any A n c t1 _).mono ?_
      rintro E w2 ⟨rfl, rfl⟩
      rw [hk]
      go_wp2_with fail
      have hw : w.heap.size ≤ w2.heap.size := hb1.size
      have r1 : Rd w2 w2.heap.size (some ⟨g1, 0, none⟩) 8 (bvals blk) := by
        rw [HX.out]
        exact (hB1.out.rd 8 (by rw [← HX.out, bvals_length, HB.out])).more hB1.out.lt
      have R1 := Lib.hid r1
      clear r1
      refine (rc2_any T A (some ⟨g1, 0, none⟩) n c 8 t1 true key blk w2 (HT.out.below hb1 H0.out) HTb.out ((HR.out.below hb1).more hw) R1.out k1 k2 (by omega) (by omega)).mono ?_
      rintro E w3 ⟨g2, rfl, hg2, hB2, hb2⟩
      obtain ⟨s, hs, Hs⟩ : ∃ s, Hid (s = crypt true (Kof T key t1) (words (ints blk))) ∧ Hid (Ok4 s) := ⟨_, rfl, crypt_ok _ _ _⟩
      rw [← hs.out] at hB2
      have R2 := Lib.hid (blk_rd hB2 Hs.out)
      clear hB2
      have hb12 : Below w.heap.size w w3 := hb1.trans (hb2.mono hw)
      go_wp2_with fail
      refine (rc2_any T A (some ⟨g2, 0, none⟩) n c 8 t1 false key (bytesOfInts (block s)) w3 (HT.out.below hb12 H0.out) HTb.out ((HR.out.below hb12).more hb12.size) R2.out k1 k2 (by omega) (by omega)).mono ?_
      rintro E w4 ⟨g3, rfl, hg3, hB3, hb3⟩
      have hfin : crypt false (Kof T key t1) (words (ints (bytesOfInts (block s)))) = words (ints blk) := by
        rw [ints_bytesOfInts (block_le Hs.out), words_block, hs.out]
        exact crypt_back _ _ (ok_words ints_le (by rw [ints_length]; exact HB.out))
      have r3 : Rd w4 w4.heap.size (some ⟨g3, 0, none⟩) 8 (bvals blk) := by
        rw [hfin, block_words (by rw [ints_length]; exact HB.out) ints_le, ivals_ints] at hB3
        exact (hB3.rd 8 (by rw [bvals_length]; exact HB.out)).more hB3.lt
      have R3 := Lib.hid r3
      have R1' := Lib.hid ((R1.out.below hb2).below (hb3.mono hb2.size))
      clear hB3 r3 hfin
      go_wp2_with fail
      refine (equal_any (some ⟨g3, 0, none⟩) (some ⟨g1, 0, none⟩) 8 8 8 8 blk blk w4 _ _ R3.out R1'.out (by omega)).mono ?_
      rintro E w5 ⟨rfl, kk, rfl⟩
      have he : (blk == blk) = true := by simp
      rw [he]
      have hb13 := hb12.trans (hb3.mono hb12.size)
      go_wp2_with fail
      go_ret
      exact ⟨rfl, below_drewN hb13 _⟩
  · have b1 : decide ((2147483647 : Int) < (n : Int)) = true := by simp; omega
    go_enter Tryd.func3, Tryd.ntmps3
    go_wp2_with (refine wpList_box_arr rfl 23 (.tmp 2) rfl X rfl ?_; intro w1 g1 HG1 hB1 hb1 hs1; replace hB1 := Lib.hid hB1)
    go_ret
    exact ⟨rfl, hb1⟩
end Go.Proofs.YtlnifplomlnoiaaDoor
