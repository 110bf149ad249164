/- fillWithRepeats at blocks of 64 bytes: a text again and again, up to whole blocks; nil of nothing. Texts of at most 200 bytes. -/
import Derived.Test.YtlnifplomlnoiaaDoorRepeat
namespace Go.Proofs.YtlnifplomlnoiaaDoor
open Go.RowKit

def fillN (p : Nat) : Nat := 64 * ((p + 63) / 64)
def fillL (l : List Int) : List Int := cyc l (fillN l.length)
theorem fillL_length (l : List Int) : (fillL l).length = fillN l.length := cyc_length _ _
/-- A slice from the beginning of a block of the call's own (or nil), and what lies in it. -/
def InRow (B : Nat) (w : World) (v : Value) (n : Nat) (l : List Int) : Prop :=
  l.length = n ∧ ((n = 0 ∧ v = .slice none 0 0) ∨ (0 < n ∧ ∃ g cap cs, v = .slice (some ⟨g, 0, none⟩) n cap ∧ n ≤ cap ∧ cap ≤ cs.length ∧ B ≤ g ∧ Blk w g 5 cs ∧ cs.take n = ivals l))

set_option maxRecDepth 100000 in
set_option maxHeartbeats 4000000 in
theorem fill_any (A : Option Addr) (p c : Nat) (l : List Int) (w : World) (hr : Rd w w.heap.size A p (ivals l)) (hp : p ≤ 200) :
    Calls Tryd.prog 65 #[.slice A p c, .int .i64 64] w fun E w' => ∃ v, E = .returned v ∧ InRow w.heap.size w' v (fillN p) (fillL l) ∧ Below w.heap.size w w' := by
  have hl : l.length = p := by rw [← ivals_length]; exact hr.1
  rcases Nat.eq_zero_or_pos p with h0 | h0
  · subst h0
    have hl0 : (fillL l).length = fillN 0 := by rw [fillL_length, hl]
    go_enter Tryd.func65, Tryd.ntmps65
    go_wp2_with fail
    go_ret
    exact ⟨_, rfl, ⟨hl0, Or.inl ⟨rfl, rfl⟩⟩, Below.refl _ _⟩
  · obtain ⟨g0, o, rfl, hg0, hcell⟩ := hr.2 h0
    obtain ⟨L, hL⟩ : ∃ L, fillN p = L := ⟨_, rfl⟩
    obtain ⟨q1, hq1⟩ : ∃ q1, (p + 63) / 64 = q1 := ⟨_, rfl⟩
    have hLq : 64 * q1 = L := by rw [← hL, fillN, hq1]
    obtain ⟨q, hq⟩ : ∃ q, (L + p - 1) / p = q := ⟨_, rfl⟩
    obtain ⟨n, hn⟩ : ∃ n, p * q = n := ⟨_, rfl⟩
    have hLp : p ≤ L ∧ L ≤ p + 63 ∧ 1 ≤ L := by omega
    have hdm : p * q + (L + p - 1) % p = L + p - 1 := by rw [← hq]; exact Nat.div_add_mod _ _
    have hmod : (L + p - 1) % p < p := Nat.mod_lt _ h0
    have hLn : L ≤ n ∧ n ≤ L + p - 1 := by rw [← hn]; omega
    have hq1' : 1 ≤ q := by
      rcases Nat.eq_zero_or_pos q with h | h
      · rw [h, Nat.mul_zero] at hn; omega
      · exact h
    have CR := Lib.hid (repeat_any g0 o p c q n l w h0 hq1' hn (by omega) hl (fun j u hu => by
      have e : (⟨g0, o, none⟩ : Addr).add j = ⟨g0, o + j, none⟩ := by unfold Addr.add; split <;> simp_all
      rw [e]
      exact hcell j u hu) hg0)
    obtain ⟨F, HF⟩ : ∃ F, Hid (F = fillL l) := ⟨_, rfl⟩
    have HFc : Hid (F = cyc l L) := by show _ = _; rw [HF.out, fillL, hl, hL]
    rw [hL, ← HF.out]
    obtain ⟨p63, hp63⟩ : ∃ x : Nat, (p : Int) + 64 - 1 = (x : Int) := ⟨p + 63, by omega⟩
    have t1 : Int.tdiv (p63 : Int) 64 = (q1 : Int) := by rw [Int.tdiv_eq_ediv_of_nonneg (by omega)]; omega
    have m1 : (64 : Int) * (q1 : Int) = (L : Int) := by omega
    obtain ⟨x2, hx2⟩ : ∃ x : Nat, (L : Int) + (p : Int) - 1 = (x : Int) := ⟨L + p - 1, by omega⟩
    have t2 : Int.tdiv (x2 : Int) (p : Int) = (q : Int) := by
      rw [Int.tdiv_eq_ediv_of_nonneg (by omega), show x2 = L + p - 1 by omega, ← hq]
      exact (Int.natCast_ediv _ _).symm
    have w1 : IntKind.i64.wrap ((p : Int) + 64) = (p : Int) + 64 := IntWalk.i64_in _ (by omega)
    have w2 : IntKind.i64.wrap (p63 : Int) = (p63 : Int) := IntWalk.i64_in _ (by omega)
    have w3 : IntKind.i64.wrap (q1 : Int) = (q1 : Int) := IntWalk.i64_in _ (by omega)
    have w4 : IntKind.i64.wrap (L : Int) = (L : Int) := IntWalk.i64_in _ (by omega)
    have w5 : IntKind.i64.wrap ((L : Int) + (p : Int)) = (L : Int) + (p : Int) := IntWalk.i64_in _ (by omega)
    have w6 : IntKind.i64.wrap (x2 : Int) = (x2 : Int) := IntWalk.i64_in _ (by omega)
    have w7 : IntKind.i64.wrap (q : Int) = (q : Int) := IntWalk.i64_in _ (by have : q ≤ n := by rw [← hn]; exact Nat.le_mul_of_pos_left q h0
                                                                             omega)
    have p0 : ((p : Int) == 0) = false := by simp; omega
    have bLn : (L : Int) ≤ (n : Int) := by omega
    have HLN := Lib.hid hLn
    have HL1 : Hid (1 ≤ L) := hLp.2.2
    have HFl : Hid (F.length = L) := by show _ = _; rw [HFc.out, cyc_length]
    have pne : ¬ p = 0 := by omega
    clear hr hcell hl hL hq1 hLq hq hn hLp hdm hmod hLn
    go_enter Tryd.func65, Tryd.ntmps65
    go_wp2_with fail
    refine CR.out.mono ?_
    rintro E w9 ⟨g, cs, rfl, hg, hB, hT, hlen, hb⟩
    go_wp2_with fail
    go_ret
    refine ⟨_, rfl, ⟨HFl.out, Or.inr ⟨HL1.out, g, n, cs, rfl, HLN.out.1, hlen, hg.out, hB, ?_⟩⟩, hb⟩
    have h1 : (cs.take n).take L = cs.take L := by rw [List.take_take, Nat.min_eq_left HLN.out.1]
    rw [← h1, hT, ivals_take, HFc.out]
    congr 1
    apply List.ext_getElem
    · rw [List.length_take, cyc_length, cyc_length]; exact Nat.min_eq_left HLN.out.1
    · intro i i1 i2
      simp [cyc]
end Go.Proofs.YtlnifplomlnoiaaDoor
