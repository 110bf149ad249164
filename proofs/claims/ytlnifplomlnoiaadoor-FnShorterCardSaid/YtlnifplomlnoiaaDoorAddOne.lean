/- zzAddOne: a number of 64 bytes, and one, added to another of 64 bytes in place. -/
import Derived.Test.YtlnifplomlnoiaaDoorSha2Dg
namespace Go.Proofs.YtlnifplomlnoiaaDoor
open Go.RowKit

/-- Bytes. -/
def ByteL (l : List Int) : Prop := ∀ i, 0 ≤ l.getD i 0 ∧ l.getD i 0 ≤ 255
theorem ByteL.set_ {l : List Int} (h : ByteL l) (i : Nat) (x : Int) (h0 : 0 ≤ x) (h1 : x ≤ 255) : ByteL (l.set i x) := by
  intro j
  have hj := h j
  rw [List.getD_eq_getElem?_getD] at hj ⊢
  rw [List.getElem?_set]
  split
  · split <;> simp <;> omega
  · exact hj
/-- So many places done, the last first: the carry and the number. -/
def addSt (xs ys : List Int) : Nat → Int × List Int
  | 0 => (1, xs)
  | k + 1 => (((addSt xs ys k).1 + ((addSt xs ys k).2.getD (63 - k) 0 + ys.getD (63 - k) 0)) / 256, (addSt xs ys k).2.set (63 - k) (((addSt xs ys k).1 + ((addSt xs ys k).2.getD (63 - k) 0 + ys.getD (63 - k) 0)) % 256))
theorem addSt_length (xs ys : List Int) : ∀ k, (addSt xs ys k).2.length = xs.length
  | 0 => rfl
  | k + 1 => by simp [addSt, addSt_length xs ys k]
theorem addSt_ok (xs ys : List Int) (hx : ByteL xs) (hy : ByteL ys) : ∀ k, (0 ≤ (addSt xs ys k).1 ∧ (addSt xs ys k).1 ≤ 2) ∧ ByteL (addSt xs ys k).2
  | 0 => ⟨by simp [addSt], hx⟩
  | k + 1 => by
    obtain ⟨h1, h2⟩ := addSt_ok xs ys hx hy k
    have a := h2 (63 - k)
    have b := hy (63 - k)
    refine ⟨?_, h2.set_ _ _ ?_ ?_⟩
    · simp only [addSt]; omega
    · omega
    · omega

theorem ivals_set' (l : List Int) (i : Nat) (x : Int) : (ivals l).set i (.int .u8 x) = ivals (l.set i x) := by simp [ivals, List.map_set]
theorem splice_get {cs xs : List Value} {o i : Nat} (ho : o ≤ cs.length) (hi : i < xs.length) : (splice cs o xs)[o + i]? = xs[i]? := by
  have e : (cs.take o).length = o := by rw [List.length_take]; omega
  rw [splice, List.getElem?_append_right (by omega), e, Nat.add_sub_cancel_left, List.getElem?_append_left hi]
theorem splice_set {cs xs : List Value} {o i : Nat} (ho : o ≤ cs.length) (hi : i < xs.length) (v : Value) : (splice cs o xs).set (o + i) v = splice cs o (xs.set i v) := by
  have e : (cs.take o).length = o := by rw [List.length_take]; omega
  rw [splice, splice, List.set_append_right _ _ (by omega), e, Nat.add_sub_cancel_left, List.set_append_left _ _ hi, List.length_set]

set_option maxRecDepth 100000 in
set_option maxHeartbeats 4000000 in
theorem addOne_any (X o c gy oy cy : Nat) (cs : List Value) (xs ys : List Int) (w : World) (hB : Blk w X 5 (splice cs o (ivals xs))) (hx : xs.length = 64) (ho : o + 64 ≤ cs.length) (hy : ∀ j, j < 64 → w.cell? ⟨gy, oy + j, none⟩ = some (.int .u8 (ys.getD j 0))) (hgy : gy < w.heap.size) (hne : gy ≠ X) (hxb : ByteL xs) (hyb : ByteL ys) :
    Calls Tryd.prog 66 #[.slice (some ⟨X, o, none⟩) 64 c, .slice (some ⟨gy, oy, none⟩) 64 cy] w fun E w' => E = .returned (.tuple #[]) ∧ Blk w' X 5 (splice cs o (ivals (addSt xs ys 64).2)) ∧ w.grownBy w' (some X) := by
  have HB := Lib.hid hB
  have HY := Lib.hid hy
  have HOK := Lib.hid (addSt_ok xs ys hxb hyb)
  have HYB := Lib.hid hyb
  have HXL := Lib.hid hx
  clear hB hy hx hxb hyb
  go_enter Tryd.func66, Tryd.ntmps66
  go_wp2_with fail
  go_loopw [4, 5] (fun vc ii wr => ∃ (k d : Nat) (cc : Int), vc = .int .i64 cc ∧ ii = .int .i64 ((d : Int) - 1) ∧ Hid (k + d = 64) ∧ d ≤ 64 ∧ Hid (cc = (addSt xs ys k).1) ∧ Hid (Blk wr X 5 (splice cs o (ivals (addSt xs ys k).2))) ∧ Hid (w.grownBy wr (some X))) (fun _ ii _ => (match ii with | .int _ z => (z + 1).toNat | _ => 0))
  case atStart => exact ⟨0, 64, 1, rfl, rfl, rfl, by omega, rfl, HB, World.grownBy.refl w _⟩
  case round =>
    obtain ⟨k, d, cc, rfl, rfl, HK, hd, HC, HBw, HGw⟩ := hrel
    rcases Nat.eq_zero_or_pos d with h0 | h0
    · have hd0 : (d : Int) - 1 = -1 := by omega
      have hk : k = 64 := by have := HK.out; omega
      rw [hk] at HBw
      clear h0 hd hk
      go_wp2_with fail
      go_end0
      exact ⟨rfl, HBw.out, HGw.out⟩
    · obtain ⟨b, hb⟩ : ∃ b : Nat, (d : Int) - 1 = (b : Int) := ⟨d - 1, by omega⟩
      rw [hb]
      have HBD : Hid (d = b + 1 ∧ 63 - k = b ∧ b < 64) := by have := HK.out; exact ⟨by omega, by omega, by omega⟩
      have bb : (b : Int) < 64 := by omega
      obtain ⟨x, HX⟩ : ∃ x, Hid (x = (addSt xs ys k).2.getD b 0) := ⟨_, rfl⟩
      obtain ⟨y, HYY⟩ : ∃ y, Hid (y = ys.getD b 0) := ⟨_, rfl⟩
      have hxr : 0 ≤ x ∧ x ≤ 255 := by rw [HX.out]; exact (HOK.out k).2 b
      have hyr : 0 ≤ y ∧ y ≤ 255 := by rw [HYY.out]; exact HYB.out b
      have hcr : 0 ≤ cc ∧ cc ≤ 2 := by rw [HC.out]; exact (HOK.out k).1
      have hlen : (addSt xs ys k).2.length = 64 := by rw [addSt_length, HXL.out]
      have hb64 : b < 64 := HBD.out.2.2
      have cx : wr.cell? ⟨X, o + b, none⟩ = some (.int .u8 x) := by
        rw [HBw.out.cell, splice_get (by omega) (by rw [ivals_length]; omega), ivals_get (by omega), HX.out]
      have fx : wr.frozen? ⟨X, o + b, none⟩ = false := HBw.out.frozen _
      have cy' : wr.cell? ⟨gy, oy + b, none⟩ = some (.int .u8 y) := by
        rw [World.cell?_of_block (a := ⟨gy, oy + b, none⟩) (HGw.out.block gy hgy (fun e => hne (Option.some.inj e))), HY.out b hb64, HYY.out]
      have wb1 : IntKind.i64.wrap ((b : Int) - 1) = (b : Int) - 1 := IntWalk.i64_in _ (by omega)
      have wx : IntKind.i64.wrap x = x := IntWalk.i64_in _ (by omega)
      have wy : IntKind.i64.wrap y = y := IntWalk.i64_in _ (by omega)
      obtain ⟨z, hz⟩ : ∃ z, x + y = z := ⟨_, rfl⟩
      obtain ⟨s, hs⟩ : ∃ s, cc + z = s := ⟨_, rfl⟩
      have wz : IntKind.i64.wrap z = z := IntWalk.i64_in _ (by omega)
      have ws : IntKind.i64.wrap s = s := IntWalk.i64_in _ (by omega)
      have HS : Hid (s = cc + (x + y)) := by show _ = _; omega
      clear hb h0 hd
      go_wp2_with fail
      go_quiet (fail)
      go_wp2_with fail
      go_roundw
      case rel =>
        have e1 : (addSt xs ys (k + 1)) = (s / 256, (addSt xs ys k).2.set b (s % 256)) := by
          rw [addSt, HBD.out.2.1, ← HX.out, ← HYY.out, ← HC.out, ← HS.out]
        refine ⟨k + 1, b, _, rfl, by go_num, by have h1 := HK.out; have h2 := HBD.out; show _ = _; omega, by omega, ?_, ?_, ?_⟩
        · show _ = _
          rw [e1]
        · show Blk _ _ _ _
          rw [e1, ← ivals_set', ← splice_set (by omega) (by rw [ivals_length]; omega)]
          exact (HBw.out.drewN _).set_ _ _
        · exact grown_setCell (grown_drewN HGw.out _) _ _
      case measure => simp
end Go.Proofs.YtlnifplomlnoiaaDoor
