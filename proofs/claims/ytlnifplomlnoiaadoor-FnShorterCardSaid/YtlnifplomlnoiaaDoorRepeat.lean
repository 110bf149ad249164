/- bytes.Repeat: a text again and again, in new memory. Texts of 1 to 2^10 bytes, at most 2^11 bytes in all. -/
import Derived.Test.YtlnifplomlnoiaaDoorAddOne
import Derived.Test.YtlnifplomlnoiaaDoorSha2Write
import Derived.Lib.MakeNoZero
import Derived.Laws.Externs
import Derived.Deep.RegionLaw
namespace Go.Proofs.YtlnifplomlnoiaaDoor
open Go.RowKit

/-- m places of a text that is gone through again and again. -/
def cyc (l : List Int) (m : Nat) : List Int := (List.range m).map fun i => l.getD (i % l.length) 0
theorem cyc_length (l : List Int) (m : Nat) : (cyc l m).length = m := by simp [cyc]
theorem cyc_self (l : List Int) : cyc l l.length = l := by
  apply List.ext_getElem
  · simp [cyc]
  · intro i h1 h2
    simp [cyc, Nat.mod_eq_of_lt h2, List.getD_eq_getElem?_getD, h2]
theorem cyc_more (l : List Int) (p q : Nat) (m : Nat) (hp : p = l.length * q) (hm : m ≤ p) : cyc l p ++ (cyc l p).take m = cyc l (p + m) := by
  apply List.ext_getElem
  · simp [cyc]; omega
  · intro i h1 h2
    rw [cyc_length] at h2
    by_cases hi : i < p
    · rw [List.getElem_append_left (by rw [cyc_length]; exact hi)]
      simp [cyc]
    · obtain ⟨j, rfl⟩ : ∃ j, i = p + j := ⟨i - p, by omega⟩
      rw [List.getElem_append_right (by rw [cyc_length]; omega)]
      simp only [cyc, List.length_map, List.length_range, Nat.add_sub_cancel_left, List.getElem_take, List.getElem_map, List.getElem_range]
      rw [hp, Nat.mul_add_mod]

theorem run_mnz (n : Nat) (hn : n ≤ 4096) (w : World) : ∃ (w' : World) (cs : List Value), (callFunc 96 #[.int .i64 (n : Int)]).run Tryd.prog w = .ok (.value (.slice (some ⟨w.heap.size, 0, none⟩) n cs.length)) w' ∧ n ≤ cs.length ∧ Blk w' w.heap.size 5 cs ∧ Below w.heap.size w w' := by
  obtain ⟨cs, h1, h2, _⟩ := Lib.run_makeNoZero (P := Tryd.prog) w #[3] 22 5 Tryd.underlying22 n (by omega)
  refine ⟨w.drew.drew.alloc (.cells cs 5), cs.toList, ?_, by simpa using h2, ?_, ?_⟩
  · rw [run_callFunc_extern (fn := Tryd.f96) Tryd.func96 (by kernel_rfl) (by kernel_rfl) (by kernel_rfl) (e := Extern.BytealgMakeNoZero.makeNoZero #[3] #[22]) (by kernel_rfl), h1]
    simp [Result.andThen]
  · have h := Blk.new w.drew.drew 5 cs.toList
    simpa using h
  · exact (below_drewN (Below.refl _ w) 2).alloc (Nat.le_refl _) _

set_option maxHeartbeats 4000000 in
theorem mul64_any (x y : Nat) (hx : x ≤ 4096) (hy : y ≤ 4096) (w : World) : Calls Tryd.prog 101 #[.int .u64 (x : Int), .int .u64 (y : Int)] w fun E w' => E = .returned (.tuple #[.int .u64 0, .int .u64 ((x * y : Nat) : Int)]) ∧ w = w' := by
  obtain ⟨z, hz⟩ : ∃ z, x * y = z := ⟨_, rfl⟩
  have hz' : (x : Int) * (y : Int) = (z : Int) := by rw [← hz]; exact (Int.natCast_mul x y).symm
  have hzb : z ≤ 16777216 := by rw [← hz]; exact Nat.mul_le_mul hx hy
  have e : ∀ n : Nat, n ≤ 4096 → bits .and .u64 (n : Int) 4294967295 = (n : Int) := by
    intro n hn
    have hh : (n &&& 4294967295) = n := by
      have h := Nat.and_two_pow_sub_one_eq_mod n 32
      rw [show (2 : Nat) ^ 32 - 1 = 4294967295 by decide] at h
      rw [h]
      exact Nat.mod_eq_of_lt (by omega)
    show IntKind.u64.wrap ((BitVec.ofInt 64 (n : Int) &&& BitVec.ofInt 64 4294967295).toNat : Int) = _
    rw [BitVec.toNat_and, ofInt_i64 n (by omega), show (BitVec.ofInt 64 4294967295).toNat = 4294967295 by decide, hh]
    exact IntWalk.u64_in _ (by omega)
  have ex := e x hx
  have ey := e y hy
  have sx : (x : Int) / 4294967296 = 0 := by omega
  have sy : (y : Int) / 4294967296 = 0 := by omega
  have sz : (z : Int) / 4294967296 = 0 := by omega
  have wz : IntKind.u64.wrap (z : Int) = (z : Int) := IntWalk.u64_in _ (by omega)
  have a0 : bits .and .u64 0 4294967295 = 0 := by decide
  rw [hz]
  clear hz e
  go_enter Tryd.func101, Tryd.ntmps101
  go_wp2_with fail
  go_ret2
  exact ⟨rfl, rfl⟩

set_option maxHeartbeats 1000000 in
theorem mul_any (x y : Nat) (hx : x ≤ 4096) (hy : y ≤ 4096) (w : World) : Calls Tryd.prog 95 #[.int .u64 (x : Int), .int .u64 (y : Int)] w fun E w' => E = .returned (.tuple #[.int .u64 0, .int .u64 ((x * y : Nat) : Int)]) ∧ w = w' := by
  go_enter Tryd.func95, Tryd.ntmps95
  go_wp2_with fail
  refine (mul64_any x y hx hy w).mono ?_
  rintro E w2 ⟨rfl, rfl⟩
  go_wp2_with fail
  go_ret2
  exact ⟨rfl, rfl⟩

set_option maxRecDepth 100000 in
set_option maxHeartbeats 8000000 in
theorem repeat_any (g0 o p c q n : Nat) (l : List Int) (w : World) (hp : 1 ≤ p) (hq : 1 ≤ q) (hn : p * q = n) (hn2 : n ≤ 2048) (hl : l.length = p) (hc : ∀ j u, (ivals l)[j]? = some u → w.cell? ((⟨g0, o, none⟩ : Addr).add j) = some u) (hg0 : g0 < w.heap.size) :
    Calls Tryd.prog 81 #[.slice (some ⟨g0, o, none⟩) p c, .int .i64 (q : Int)] w fun E w' => ∃ g cs, E = .returned (.slice (some ⟨g, 0, none⟩) n n) ∧ Hid (w.heap.size ≤ g) ∧ Blk w' g 5 cs ∧ cs.take n = ivals (cyc l n) ∧ n ≤ cs.length ∧ Below w.heap.size w w' := by
  have hpn : p ≤ n := by rw [← hn]; exact Nat.le_mul_of_pos_right p hq
  have hqn : q ≤ n := by rw [← hn]; exact Nat.le_mul_of_pos_left q hp
  obtain ⟨w1, cs0, hrun, hcs0, hB1, hb1⟩ := run_mnz n (by omega) w
  obtain ⟨g, HG⟩ : ∃ g, Hid (g = w.heap.size) := ⟨_, rfl⟩
  rw [← HG.out] at hrun hB1
  obtain ⟨cap0, hcap0⟩ : ∃ cap0, cs0.length = cap0 := ⟨_, rfl⟩
  rw [hcap0] at hrun hcs0
  have HB1 := Lib.hid hB1
  have Hb1 := Lib.hid hb1
  have HN := Lib.hid hn
  have HLp := Lib.hid hl
  have HC := Lib.hid hc
  have HCap := Lib.hid hcap0
  have CM := Lib.hid (mul_any p q (by omega) (by omega) w)
  rw [hn] at CM
  have wp' : IntKind.u64.wrap (p : Int) = (p : Int) := IntWalk.u64_in _ (by omega)
  have wq : IntKind.u64.wrap (q : Int) = (q : Int) := IntWalk.u64_in _ (by omega)
  have wn : IntKind.i64.wrap (n : Int) = (n : Int) := IntWalk.i64_in _ (by omega)
  have q0 : ((q : Int) == 0) = false := by simp; omega
  have q1 : ¬ (q : Int) < 0 := by omega
  have p0 : ((p : Int) == 0) = false := by simp; omega
  have n1 : ¬ (9223372036854775807 : Int) < (n : Int) := by omega
  have n2 : ¬ (8192 : Int) < (n : Int) := by omega
  have nc : (n : Int) ≤ (cap0 : Int) := by omega
  have el : (ivals l).length = p := by rw [ivals_length, HLp.out]
  have HC1 : Hid (∀ j v, (ivals l)[j]? = some v → w1.cell? ((⟨g0, o, none⟩ : Addr).add j) = some v) := fun j v hv => by
    have e : (⟨g0, o, none⟩ : Addr).add j = ⟨g0, o + j, none⟩ := by unfold Addr.add; split <;> simp_all
    have h := HC.out j v hv
    rw [e] at h ⊢
    exact (Hb1.out.cell (p := ⟨g0, o + j, none⟩) hg0).trans h
  clear hc hn hl hB1 hb1 hcap0
  go_enter Tryd.func81, Tryd.ntmps81
  go_wp2_with fail
  refine CM.out.mono ?_
  rintro E w2 ⟨rfl, rfl⟩
  go_wp2_with (refine wpList_copy_blk rfl (.tmp 58) (.tmp 59) 22 22 rfl 5 Tryd.underlying22 info5c _ _ n n p c rfl rfl g 0 cs0 5 HB1.out (ivals l) (by rw [ivals_length, HLp.out]; exact (Nat.min_eq_left hpn).symm) (fun _ => ⟨rfl, _, rfl, HC1.out⟩) (by rw [ivals_length, HLp.out, HCap.out]; omega) ivals_one ?_; intro w3 hB3 hg3; replace hB3 := Lib.hid hB3; replace hg3 := Lib.hid hg3)
  have hgw : w.heap.size ≤ g := by rw [HG.out]; exact Nat.le_refl _
  have HB3 : Hid (Below w.heap.size w w3) := Hb1.out.trans (below_of_grown hg3.out hgw Hb1.out.size)
  have hT3 : (splice cs0 0 (ivals l)).take p = ivals (cyc l p) := by
    rw [← HLp.out, cyc_self, splice, List.take_zero, List.nil_append, List.take_left' (ivals_length l)]
  have HT3 := Lib.hid hT3
  have HL3 : Hid (n ≤ (splice cs0 0 (ivals l)).length) := by
    show _ ≤ _
    rw [length_splice _ _ _ (by rw [ivals_length, HLp.out, HCap.out]; omega), HCap.out]
    exact hcs0
  have HD0 : Hid (∃ k, p = l.length * k) := ⟨1, by rw [HLp.out, Nat.mul_one]⟩
  clear hT3 HC1 HC hg3 el
  go_loopw [10] (fun vb wr => ∃ (b : Nat) (cs : List Value), b ≤ n ∧ 1 ≤ b ∧ vb = .int .i64 (b : Int) ∧ Hid (b = n ∨ ∃ k, b = l.length * k) ∧ Hid (Blk wr g 5 cs) ∧ Hid (cs.take b = ivals (cyc l b)) ∧ Hid (n ≤ cs.length) ∧ Hid (Below w.heap.size w wr)) (fun vb _ => n - (intOf vb).toNat)
  case atStart => exact ⟨p, _, hpn, hp, rfl, Or.inr HD0.out, hB3, HT3, HL3, HB3⟩
  case round =>
    clear hB3 HT3 HL3 HB3 HD0
    obtain ⟨b, cs, hbn, hb1, rfl, HD, HBw, HT, HLn, HBr⟩ := hrel
    by_cases hlt : b < n
    · have bb : (b : Int) < (n : Int) := by omega
      have bb2 : ¬ (n : Int) < (b : Int) := by omega
      have bb3 : (b : Int) ≤ (n : Int) := by omega
      have nnb : ¬ n = b := by omega
      obtain ⟨m, hm⟩ : ∃ m, Nat.min b (n - b) = m := ⟨_, rfl⟩
      have hm1 : m ≤ b ∧ b + m ≤ n ∧ 1 ≤ m := by
        have h1 : m ≤ b := by rw [← hm]; exact Nat.min_le_left _ _
        have h2 : m ≤ n - b := by rw [← hm]; exact Nat.min_le_right _ _
        have h3 : 1 ≤ m := by rw [← hm]; exact Nat.le_min.2 ⟨hb1, by omega⟩
        exact ⟨h1, by omega, h3⟩
      have Hm := Lib.hid hm
      obtain ⟨b', hb'⟩ : ∃ b' : Nat, (b : Int) + (m : Int) = (b' : Int) := ⟨b + m, by omega⟩
      have wb' : IntKind.i64.wrap (b' : Int) = (b' : Int) := IntWalk.i64_in _ (by omega)
      have HL7 : Hid (((cyc l b).take m).length = m) := by show _ = _; rw [List.length_take, cyc_length]; exact Nat.min_eq_left hm1.1
      have el : (ivals ((cyc l b).take m)).length = m := by rw [ivals_length, HL7.out]
      have HSC : Hid (∀ j v, (ivals ((cyc l b).take m))[j]? = some v → wr.cell? ((⟨g, 0, none⟩ : Addr).add j) = some v) := by
        intro j v hv
        have e : (⟨g, 0, none⟩ : Addr).add j = ⟨g, 0 + j, none⟩ := by unfold Addr.add; split <;> simp_all
        have hj : j < m := by
          rcases Nat.lt_or_ge j (ivals ((cyc l b).take m)).length with h | h
          · rwa [el] at h
          · rw [List.getElem?_eq_none h] at hv; cases hv
        rw [e, Nat.zero_add, HBw.out.cell, take_get HT.out (by omega), ← hv, ← ivals_take, List.getElem?_take]
        simp [hj]
      have hbm : b + m = b' := by omega
      have HBM := Lib.hid hbm
      clear hm hbm
      go_wp2_with fail
      go_region_law (refine step_copy_splice rfl (.tmp 70) (.tmp 73) 22 22 rfl 5 Tryd.underlying22 info5c _ _ (n - b) (n - b) b n (by go_simp) (by go_simp) g b cs 5 (HBw.out.drewN 1) (ivals ((cyc l b).take m)) (by rw [el]; exact Hm.out.symm) (fun _ => ⟨rfl, _, rfl, HSC.out⟩) (by rw [el]; have := HLn.out; omega) ivals_one w.heap.size w (below_drewN HBr.out 1) hgw ?_; intro w7 hB7 hb7)
      all_goals
        replace hB7 := Lib.hid hB7
        replace hb7 := Lib.hid hb7
        simp only [List.getElem_toArray, List.getElem_cons_succ, List.getElem_cons_zero]
        go_frame
        go_wp2_with fail
        go_roundw
        case rel =>
          have hk : ∃ k, b = l.length * k := by
            rcases HD.out with h | h
            · omega
            · exact h
          obtain ⟨k, hk⟩ := hk
          have ht : (splice cs b (ivals ((cyc l b).take m))).take b' = ivals (cyc l b') := by
            rw [splice, HT.out, ← List.append_assoc, ← ivals_append, cyc_more l b k m hk hm1.1, HBM.out]
            exact List.take_left' (by rw [ivals_length, cyc_length])
          have hmin := Hm.out
          have hbm := HBM.out
          refine ⟨b', splice cs b (ivals ((cyc l b).take m)), by omega, by omega, rfl, ?_, hB7.out, ht, ?_, hb7.out⟩
          · rcases Nat.le_total b (n - b) with h | h
            · have hmb : m = b := by rw [← hmin]; exact Nat.min_eq_left h
              exact Or.inr ⟨k + k, by rw [Nat.mul_add]; omega⟩
            · have hmb : m = n - b := by rw [← hmin]; exact Nat.min_eq_right h
              exact Or.inl (by omega)
          · show _ ≤ _
            rw [length_splice _ _ _ (by rw [el]; have := HLn.out; omega)]
            exact HLn.out
        case measure =>
          have hbm := HBM.out
          simp [intOf]
          omega
    · have hbn' : b = n := by omega
      subst hbn'
      go_wp2_with fail
      go_ret
      exact ⟨g, rfl, hgw, cs, HBw.out, HT.out, HLn.out, HBr.out⟩
end Go.Proofs.YtlnifplomlnoiaaDoor
