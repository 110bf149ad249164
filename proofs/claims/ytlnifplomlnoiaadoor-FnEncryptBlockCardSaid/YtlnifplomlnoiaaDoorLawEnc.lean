/- The law FnEncryptBlock: the program's block is the specification's. -/
import Derived.Test.YtlnifplomlnoiaaDoorSpecEnc
namespace Go.Proofs.YtlnifplomlnoiaaDoor
open Go.RowKit

set_option maxRecDepth 1000000 in
set_option maxHeartbeats 4000000 in
theorem lawEnc_any (A : Option Addr) (n c : Nat) (t : Int) (key blk : List UInt8) (w : World) (hT : TabAt w piT) (hr : Rd w w.heap.size A n (bvals key)) (hb : blk.length = 8) (h0 : 0 < w.heap.size) :
    Calls Tryd.prog 5 #[.slice A n c, .int .i64 t, .agg (bvals blk).toArray] w fun E w' => E = .returned (.bool true) ∧ Below w.heap.size w w' := by
  obtain ⟨X, hX⟩ : ∃ X, bvals blk = X := ⟨_, rfl⟩
  have HX := Lib.hid hX
  rw [hX]
  clear hX
  have HT := Lib.hid hT
  have HR := Lib.hid hr
  have HB := Lib.hid hb
  have H0 := Lib.hid h0
  clear hT hr hb h0
  by_cases hbig : n ≤ 2147483647
  · have b1 : decide ((2147483647 : Int) < (n : Int)) = false := by simp; omega
    cases hk : keyOk n t with
    | false =>
      go_enter Tryd.func5, Tryd.ntmps5
      go_wp2_with (refine wpList_box_arr rfl 23 (.tmp 2) rfl X rfl ?_; intro w1 g1 HG1 hB1 hb1 hs1; replace hB1 := Lib.hid hB1)
      refine (keyOk_any A n c t _).mono ?_
      rintro E w2 ⟨rfl, rfl⟩
      rw [hk]
      go_wp2_with fail
      go_ret
      exact ⟨rfl, hb1⟩
    | true =>
      have hk' : 1 ≤ n ∧ n ≤ 128 ∧ 1 ≤ t ∧ t ≤ 1024 := by simpa [keyOk] using hk
      obtain ⟨t1, rfl⟩ : ∃ t1 : Nat, t = (t1 : Int) := ⟨t.toNat, by omega⟩
      obtain ⟨k1, k2, k3, k4⟩ := hk'
      go_enter Tryd.func5, Tryd.ntmps5
      go_wp2_with (refine wpList_box_arr rfl 23 (.tmp 2) rfl X rfl ?_; intro w1 g1 HG1 hB1 hb1 hs1; replace hB1 := Lib.hid hB1)
      refine (keyOk_any A n c t1 _).mono ?_
      rintro E w2 ⟨rfl, rfl⟩
      rw [hk]
      go_wp2_with fail
      have hw : w.heap.size ≤ w2.heap.size := hb1.size
      have r1 : Rd w2 w2.heap.size (some ⟨g1, 0, none⟩) 8 (bvals blk) := by
        rw [HX.out]
        exact (hB1.out.rd 8 (by rw [← HX.out, bvals_length, HB.out])).more hB1.out.lt
      have R1 := Lib.hid r1
      clear r1
      refine (rc2_any piT A (some ⟨g1, 0, none⟩) n c 8 t1 true key blk w2 (HT.out.below hb1 H0.out) piT_le ((HR.out.below hb1).more hw) R1.out k1 k2 (by omega) (by omega)).mono ?_
      rintro E w3 ⟨g2, rfl, hg2, hB2, hb2⟩
      obtain ⟨s, hs, Hs⟩ : ∃ s, Hid (s = crypt true (Kof piT key t1) (words (ints blk))) ∧ Hid (Ok4 s) := ⟨_, rfl, crypt_ok _ _ _⟩
      rw [← hs.out] at hB2
      have R2 := Lib.hid (blk_rd hB2 Hs.out)
      clear hB2
      have hb12 : Below w.heap.size w w3 := hb1.trans (hb2.mono hw)
      go_wp2_with fail
      have R1' := Lib.hid (R1.out.below hb2)
      refine (specEncrypt_any A (some ⟨g1, 0, none⟩) n c 8 t1 key blk w3 ((HR.out.below hb12).more hb12.size) (R1'.out.more hb2.size) k1 k2 (by omega) (by omega)).mono ?_
      rintro E w4 ⟨v, rfl, ho, hb3⟩
      obtain ⟨A4, c4, rfl, hc4, r4⟩ := own_form2 ho
      have hs' : s = encS (Kof piT key t1) (words (ints blk)) := hs.out
      rw [← hs', ← ints_bytesOfInts (block_le Hs.out), ivals_ints] at r4
      have R4 := Lib.hid r4
      have R2' := Lib.hid (R2.out.below hb3)
      clear ho r4 hs'
      go_wp2_with fail
      refine (equal_any (some ⟨g2, 0, none⟩) A4 8 8 8 c4 (bytesOfInts (block s)) (bytesOfInts (block s)) w4 _ _ R2'.out R4.out (by omega)).mono ?_
      rintro E w5 ⟨rfl, kk, rfl⟩
      have he : (bytesOfInts (block s) == bytesOfInts (block s)) = true := by simp
      rw [he]
      have hb13 := hb12.trans (hb3.mono hb12.size)
      go_wp2_with fail
      go_ret
      exact ⟨rfl, below_drewN hb13 _⟩
  · have b1 : decide ((2147483647 : Int) < (n : Int)) = true := by simp; omega
    go_enter Tryd.func5, Tryd.ntmps5
    go_wp2_with (refine wpList_box_arr rfl 23 (.tmp 2) rfl X rfl ?_; intro w1 g1 HG1 hB1 hb1 hs1; replace hB1 := Lib.hid hB1)
    go_ret
    exact ⟨rfl, hb1⟩
end Go.Proofs.YtlnifplomlnoiaaDoor
