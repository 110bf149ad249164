/- The law FnShorter: fewer derived bytes are the first ones of more, whatever the library's table of SHA-256 holds. -/
import Derived.Test.YtlnifplomlnoiaaDoorImplDer
import Derived.Test.YtlnifplomlnoiaaDoorFew
import Derived.Test.YtlnifplomlnoiaaDoorEq
namespace Go.Proofs.YtlnifplomlnoiaaDoor
open Go.RowKit

theorem ivals_bytes {l : List Int} (h : ∀ x ∈ l, 0 ≤ x ∧ x ≤ 255) : ivals l = bvals (bytesOfInts l) := by
  rw [← ivals_ints, ints_bytesOfInts h]
theorem bytesOfInts_take (l : List Int) (n : Nat) : (bytesOfInts l).take n = bytesOfInts (l.take n) := by
  unfold bytesOfInts
  rw [List.map_take]
theorem Rd.take {w : World} {B : Nat} {A : Option Addr} {n m : Nat} {xs : List Value} (h : Rd w B A n xs) (hm : m ≤ n) : Rd w B A m (xs.take m) := by
  refine ⟨by rw [List.length_take, h.1]; omega, fun h0 => ?_⟩
  obtain ⟨g, o, e, hg, hc⟩ := h.2 (by omega)
  refine ⟨g, o, e, hg, fun j u hu => hc j u ?_⟩
  rw [List.getElem?_take] at hu
  split at hu
  · exact hu
  · cases hu

set_option maxRecDepth 1000000 in
set_option maxHeartbeats 4000000 in
theorem lawShorter_any (h id sz ls : Int) (As Ap : Option Addr) (sl sc pl pc : Nat) (ss ps : List UInt8) (K : Nat → Int) (r : Nat) (hr64 : r = 64) (w : World) (hs : Rd w w.heap.size As sl (bvals ss)) (hp : Rd w w.heap.size Ap pl (bvals ps)) (hK : KAt w K) (h7 : 7 < w.heap.size) :
    Calls Tryd.prog 7 #[.int .i64 h, .slice As sl sc, .slice Ap pl pc, .int .i64 id, .int .i64 sz, .int .i64 ls] w fun E w' => E = .returned (.bool true) ∧ Below w.heap.size w w' := by
  have HS := Lib.hid hs
  have HP := Lib.hid hp
  have HK := Lib.hid hK
  have H7 := Lib.hid h7
  have HR64 := Lib.hid hr64
  clear hs hp hK h7 hr64
  by_cases hbig : sl ≤ 2147483647 ∧ pl ≤ 2147483647
  · obtain ⟨hb1, hb2⟩ := hbig
    have c1 : decide ((2147483647 : Int) < (sl : Int)) = false := by simp; omega
    have c2 : decide ((2147483647 : Int) < (pl : Int)) = false := by simp; omega
    cases hk : (h == 1 || h == 2) with
    | false =>
      go_enter Tryd.func7, Tryd.ntmps7
      go_wp2_with fail
      refine (hashOk_any h w).mono ?_
      rintro E w1 ⟨rfl, rfl⟩
      rw [hk]
      go_wp2_with fail
      go_ret
      exact ⟨rfl, Below.refl _ _⟩
    | true =>
      have h12 : h = 1 ∨ h = 2 := by simpa using hk
      have H12 := Lib.hid h12
      clear h12
      cases hsh : (!(decide ((200 : Int) < (sl : Int)) || decide ((200 : Int) < (pl : Int)))) with
      | false =>
        go_enter Tryd.func7, Tryd.ntmps7
        go_wp2_with fail
        refine (hashOk_any h w).mono ?_
        rintro E w1 ⟨rfl, rfl⟩
        rw [hk]
        go_wp2_with fail
        refine (short_any As Ap sl sc pl pc _ _ _ (handed_two _ _ _ _ _ _ _ _)).mono ?_
        rintro E w1 ⟨rfl, rfl⟩
        rw [hsh]
        go_wp2_with fail
        go_ret
        exact ⟨rfl, (Below.refl _ _).alloc (Nat.le_refl _) _⟩
      | true =>
        cases d0 : decide (id < 1) with
        | true =>
          go_enter Tryd.func7, Tryd.ntmps7
          go_wp2_with fail
          refine (hashOk_any h w).mono ?_
          rintro E w1 ⟨rfl, rfl⟩
          rw [hk]
          go_wp2_with fail
          refine (short_any As Ap sl sc pl pc _ _ _ (handed_two _ _ _ _ _ _ _ _)).mono ?_
          rintro E w1 ⟨rfl, rfl⟩
          rw [hsh]
          go_wp2_with fail
          go_ret
          exact ⟨rfl, (Below.refl _ _).alloc (Nat.le_refl _) _⟩
        | false =>
          cases d1 : decide ((3 : Int) < id) with
          | true =>
            go_enter Tryd.func7, Tryd.ntmps7
            go_wp2_with fail
            refine (hashOk_any h w).mono ?_
            rintro E w1 ⟨rfl, rfl⟩
            rw [hk]
            go_wp2_with fail
            refine (short_any As Ap sl sc pl pc _ _ _ (handed_two _ _ _ _ _ _ _ _)).mono ?_
            rintro E w1 ⟨rfl, rfl⟩
            rw [hsh]
            go_wp2_with fail
            go_ret
            exact ⟨rfl, (Below.refl _ _).alloc (Nat.le_refl _) _⟩
          | false =>
            cases d2 : decide (sz < 1) with
            | true =>
              go_enter Tryd.func7, Tryd.ntmps7
              go_wp2_with fail
              refine (hashOk_any h w).mono ?_
              rintro E w1 ⟨rfl, rfl⟩
              rw [hk]
              go_wp2_with fail
              refine (short_any As Ap sl sc pl pc _ _ _ (handed_two _ _ _ _ _ _ _ _)).mono ?_
              rintro E w1 ⟨rfl, rfl⟩
              rw [hsh]
              go_wp2_with fail
              go_ret
              exact ⟨rfl, (Below.refl _ _).alloc (Nat.le_refl _) _⟩
            | false =>
              cases d3 : decide ((200 : Int) < sz) with
              | true =>
                go_enter Tryd.func7, Tryd.ntmps7
                go_wp2_with fail
                refine (hashOk_any h w).mono ?_
                rintro E w1 ⟨rfl, rfl⟩
                rw [hk]
                go_wp2_with fail
                refine (short_any As Ap sl sc pl pc _ _ _ (handed_two _ _ _ _ _ _ _ _)).mono ?_
                rintro E w1 ⟨rfl, rfl⟩
                rw [hsh]
                go_wp2_with fail
                go_ret
                exact ⟨rfl, (Below.refl _ _).alloc (Nat.le_refl _) _⟩
              | false =>
                cases d4 : decide (ls < 1) with
                | true =>
                  go_enter Tryd.func7, Tryd.ntmps7
                  go_wp2_with fail
                  refine (hashOk_any h w).mono ?_
                  rintro E w1 ⟨rfl, rfl⟩
                  rw [hk]
                  go_wp2_with fail
                  refine (short_any As Ap sl sc pl pc _ _ _ (handed_two _ _ _ _ _ _ _ _)).mono ?_
                  rintro E w1 ⟨rfl, rfl⟩
                  rw [hsh]
                  go_wp2_with fail
                  go_ret
                  exact ⟨rfl, (Below.refl _ _).alloc (Nat.le_refl _) _⟩
                | false =>
                  cases d5 : decide (sz < ls) with
                  | true =>
                    go_enter Tryd.func7, Tryd.ntmps7
                    go_wp2_with fail
                    refine (hashOk_any h w).mono ?_
                    rintro E w1 ⟨rfl, rfl⟩
                    rw [hk]
                    go_wp2_with fail
                    refine (short_any As Ap sl sc pl pc _ _ _ (handed_two _ _ _ _ _ _ _ _)).mono ?_
                    rintro E w1 ⟨rfl, rfl⟩
                    rw [hsh]
                    go_wp2_with fail
                    go_ret
                    exact ⟨rfl, (Below.refl _ _).alloc (Nat.le_refl _) _⟩
                  | false =>
                    have hsl : sl ≤ 200 ∧ pl ≤ 200 := by simp at hsh; omega
                    obtain ⟨hsl, hpl⟩ := hsl
                    have e0 : 1 ≤ id := by simpa using d0
                    have e1 : id ≤ 3 := by simpa using d1
                    have e2 : 1 ≤ sz := by simpa using d2
                    have e3 : sz ≤ 200 := by simpa using d3
                    have e4 : 1 ≤ ls := by simpa using d4
                    have e5 : ls ≤ sz := by simpa using d5
                    obtain ⟨size, rfl⟩ : ∃ n : Nat, sz = (n : Int) := ⟨sz.toNat, by omega⟩
                    obtain ⟨less, rfl⟩ : ∃ n : Nat, ls = (n : Int) := ⟨ls.toNat, by omega⟩
                    go_enter Tryd.func7, Tryd.ntmps7
                    go_wp2_with fail
                    refine (hashOk_any h w).mono ?_
                    rintro E w1 ⟨rfl, rfl⟩
                    rw [hk]
                    go_wp2_with fail
                    refine (short_any As Ap sl sc pl pc _ _ _ (handed_two _ _ _ _ _ _ _ _)).mono ?_
                    rintro E w1 ⟨rfl, rfl⟩
                    rw [hsh]
                    obtain ⟨w1, hw1⟩ : ∃ w1, w1 = w.alloc (.cells #[.slice As sl sc, .slice Ap pl pc] 22) := ⟨_, rfl⟩
                    rw [← hw1]
                    have B1 : Hid (Below w.heap.size w w1) := by rw [hw1]; exact (Below.refl _ _).alloc (Nat.le_refl _) _
                    clear hw1
                    go_wp2_with fail
                    refine (derive_any h H12.out As Ap sl sc pl pc size ss ps id K r HR64.out w1 ((HS.out.below B1.out).more B1.out.size) ((HP.out.below B1.out).more B1.out.size) hsl hpl (by omega) (by omega) e0 e1 (fun i hi => (B1.out.cell (p := ⟨7, i, none⟩) H7.out).trans (HK.out i hi)) (Nat.lt_of_lt_of_le H7.out B1.out.size)).mono ?_
                    rintro E w2 ⟨g2, cap2, rfl, hc2, r2, b2⟩
                    have R2 := Lib.hid r2
                    have B2 : Hid (Below w.heap.size w w2) := B1.out.trans (b2.mono B1.out.size)
                    clear r2 b2
                    go_wp2_with fail
                    refine (derive_any h H12.out As Ap sl sc pl pc less ss ps id K r HR64.out w2 ((HS.out.below B2.out).more B2.out.size) ((HP.out.below B2.out).more B2.out.size) hsl hpl (by omega) (by omega) e0 e1 (fun i hi => (B2.out.cell (p := ⟨7, i, none⟩) H7.out).trans (HK.out i hi)) (Nat.lt_of_lt_of_le H7.out B2.out.size)).mono ?_
                    rintro E w3 ⟨g3, cap3, rfl, hc3, r3, b3⟩
                    have R2' : Hid (Rd w3 w2.heap.size (some ⟨g2, 0, none⟩) size (ivals (dOut h K r (ints ss) (ints ps) id size))) := R2.out.below b3
                    have B3 : Hid (Below w.heap.size w w3) := B2.out.trans (b3.mono B2.out.size)
                    obtain ⟨X, hX⟩ : ∃ X, X = bytesOfInts (dOut h K r (ints ss) (ints ps) id less) := ⟨_, rfl⟩
                    have R3 : Hid (Rd w3 w3.heap.size (some ⟨g3, 0, none⟩) less (bvals X)) := by
                      show Rd _ _ _ _ _
                      rw [hX, ← ivals_bytes (dOut_ok h K r (ints ss) (ints ps) id less)]
                      exact r3
                    have R2l : Hid (Rd w3 w2.heap.size (some ⟨g2, 0, none⟩) less (bvals X)) := by
                      show Rd _ _ _ _ _
                      rw [hX, ← ivals_bytes (dOut_ok h K r (ints ss) (ints ps) id less), ← dOut_shorter h K r (ints ss) (ints ps) id size less (by omega), ← ivals_take]
                      exact R2'.out.take (by omega)
                    have f1 : (less : Int) ≤ (cap2 : Int) := by omega
                    have f2 : (0 : Int) ≤ (less : Int) := by omega
                    clear r3 b3 hX R2 R2'
                    go_wp2_with fail
                    refine (equal_any (some ⟨g2, 0, none⟩) (some ⟨g3, 0, none⟩) less less cap2 cap3 X X w3 _ _ R2l.out R3.out (by omega)).mono ?_
                    rintro E w5 ⟨rfl, kk, rfl⟩
                    have he : (X == X) = true := by simp
                    rw [he]
                    go_wp2_with fail
                    go_ret
                    exact ⟨rfl, below_drewN B3.out _⟩
  · by_cases hb1 : sl ≤ 2147483647
    · have hb2 : ¬ pl ≤ 2147483647 := fun h => hbig ⟨hb1, h⟩
      have c1 : decide ((2147483647 : Int) < (sl : Int)) = false := by simp; omega
      have c2 : decide ((2147483647 : Int) < (pl : Int)) = true := by simp; omega
      go_enter Tryd.func7, Tryd.ntmps7
      go_wp2_with fail
      go_ret
      exact ⟨rfl, Below.refl _ _⟩
    · have c1 : decide ((2147483647 : Int) < (sl : Int)) = true := by simp; omega
      go_enter Tryd.func7, Tryd.ntmps7
      go_wp2_with fail
      go_ret
      exact ⟨rfl, Below.refl _ _⟩
end Go.Proofs.YtlnifplomlnoiaaDoor
