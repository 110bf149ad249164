/- The library's block, and Digest.Write: onto an empty buffer, and onto a buffer that it fills up to whole blocks. Texts of at most 1024 bytes. -/
import Derived.Test.YtlnifplomlnoiaaDoorSha2Blk
import Derived.Test.YtlnifplomlnoiaaDoorSha2Dg
namespace Go.Proofs.YtlnifplomlnoiaaDoor
open Go.RowKit

set_option maxHeartbeats 1000000 in
theorem shaBlock_any (D g o c m : Nat) (s0 : S8) (x P : List Int) (nx len : Int) (K : Nat → Int) (r : Nat) (hr64 : r = 64) (w : World) (hD : Blk w D 162 (dg s0 x nx len)) (hx : x.length = 64) (hm : m ≤ 16384) (hc : 64 * m ≤ c)
    (hP : ∀ j, j < 64 * m → w.cell? ⟨g, o + j, none⟩ = some (.int .u8 (P.getD j 0))) (hg : g < w.heap.size) (hK : KAt w K) (h7 : 7 < w.heap.size) :
    Calls Tryd.prog 140 #[.pointer (some ⟨D, 0, none⟩), .slice (some ⟨g, o, none⟩) (64 * m) c] w fun E w' => E = .returned (.tuple #[]) ∧ Blk w' D 162 (dg (kBlocks r K P s0 m).2 x nx len) ∧ w.grownBy w' (some D) := by
  go_enter Tryd.func140, Tryd.ntmps140
  go_wp2_with fail
  refine (blockGen_any D g o c m s0 x P nx len K r hr64 w hD hx hm hc hP hg hK h7).mono ?_
  rintro E w2 ⟨rfl, h1, h2⟩
  go_wp2_with fail
  go_end0
  exact ⟨rfl, h1, h2⟩

theorem grown_trans {w w1 w2 : World} {row : Option Nat} (h : w.grownBy w1 row) (h' : w1.grownBy w2 row) : w.grownBy w2 row :=
  ⟨h'.os.trans h.os, h'.tape.trans h.tape, h'.output.trans h.output, Nat.le_trans h.size h'.size, fun i hi hne => (h'.block i (Nat.lt_of_lt_of_le hi h.size) hne).trans (h.block i hi hne)⟩
theorem KAt.grown {w w' : World} {K : Nat → Int} {D : Nat} (h : KAt w K) (hg : w.grownBy w' (some D)) (h7 : 7 < w.heap.size) (h7D : 7 ≠ D) : KAt w' K :=
  fun i hi => (World.cell?_of_block (a := ⟨7, i, none⟩) (hg.block 7 h7 (fun e => h7D (Option.some.inj e)))).trans (h i hi)
theorem getD_drop (l : List Int) (k j : Nat) : (l.drop k).getD j 0 = l.getD (k + j) 0 := by
  rw [List.getD_eq_getElem?_getD, List.getD_eq_getElem?_getD, List.getElem?_drop]

theorem info5c : (Tryd.prog.info? 5).map (·.size) = some 1 := by kernel_rfl

set_option maxRecDepth 100000 in
theorem andNot63 (n : Nat) (hn : n ≤ 1024) : bits .andNot .i64 (n : Int) 63 = ((64 * (n / 64) : Nat) : Int) := by
  have h : ∀ k : Fin 1025, bits .andNot .i64 (k.val : Int) 63 = ((64 * (k.val / 64) : Nat) : Int) := by decide +kernel
  exact h ⟨n, by omega⟩
theorem lay_nil (x : List Int) (k : Nat) : lay x k [] = x := by simp [lay]

set_option maxRecDepth 100000 in
set_option maxHeartbeats 8000000 in
/-- Onto an empty buffer. -/
theorem write0_any (D g o n c : Nat) (s0 : S8) (x P : List Int) (len : Int) (K : Nat → Int) (r : Nat) (hr64 : r = 64) (w : World) (hD : Blk w D 162 (dg s0 x 0 len)) (hx : x.length = 64) (hn : n ≤ 1024) (hPl : P.length = n) (hnc : n ≤ c)
    (hP : ∀ j, j < n → w.cell? ⟨g, o + j, none⟩ = some (.int .u8 (P.getD j 0))) (hg : g < w.heap.size) (hgD : g ≠ D) (hK : KAt w K) (h7 : 7 < w.heap.size) (h7D : 7 ≠ D) :
    Calls Tryd.prog 137 #[.pointer (some ⟨D, 0, none⟩), .slice (some ⟨g, o, none⟩) n c] w fun E w' => (∃ v, E = .returned v) ∧ Blk w' D 162 (dg (kBlocks r K P s0 (n / 64)).2 (lay x 0 (P.drop (64 * (n / 64)))) ((n % 64 : Nat) : Int) (IntKind.u64.wrap (len + (n : Int)))) ∧ w.grownBy w' (some D) := by
  have c72 : w.cell? ⟨D, 72, none⟩ = some (.int .i64 0) := by rw [hD.cell, dg_nx hx]
  have c73 : w.cell? ⟨D, 73, none⟩ = some (.int .u64 len) := by rw [hD.cell, dg_len hx]
  have f73 : w.frozen? ⟨D, 73, none⟩ = false := hD.frozen _
  have wn : IntKind.u64.wrap (n : Int) = (n : Int) := IntWalk.u64_in _ (by omega)
  obtain ⟨L, HL⟩ : ∃ L, Hid (L = IntKind.u64.wrap (len + (n : Int))) := ⟨_, rfl⟩
  have HD := Lib.hid hD
  have HX := Lib.hid hx
  have HP := Lib.hid hP
  have HG := Lib.hid hg
  have HK := Lib.hid hK
  have H7 := Lib.hid h7
  have HPL := Lib.hid hPl
  have hDl := hD.lt
  clear hD hx hP hg hK h7 hPl
  obtain ⟨m, hm⟩ : ∃ m, n / 64 = m := ⟨_, rfl⟩
  obtain ⟨q, hq⟩ : ∃ q, n % 64 = q := ⟨_, rfl⟩
  obtain ⟨nn, hnn⟩ : ∃ nn, 64 * m = nn := ⟨_, rfl⟩
  have hsum : Hid (n = nn + q) := by show _ = _; omega
  have hmn : m = n / 64 := hm.symm
  have Hmn := Lib.hid hmn
  clear hmn
  have hq64 : q < 64 := by omega
  rw [hm, hq, hnn]
  obtain ⟨ys, Hys⟩ : ∃ ys, Hid (ys = P.drop nn) := ⟨_, rfl⟩
  have Hyl : Hid (ys.length = q) := by have := hsum.out; show _ = _; rw [Hys.out, List.length_drop, HPL.out]; omega
  rw [← Hys.out]
  obtain ⟨S1, HS1⟩ : ∃ S1, Hid (S1 = (kBlocks r K P s0 m).2) := ⟨_, rfl⟩
  rw [← HS1.out]
  rw [← HL.out]
  clear hm hq
  go_enter Tryd.func137, Tryd.ntmps137
  go_upto_if 61 with fail
  have eL := HL.out.symm
  rw [eL]
  obtain ⟨w1, hw1⟩ : ∃ w1, w1 = w.setCell ⟨D, 73, none⟩ (.int .u64 L) := ⟨_, rfl⟩
  have HD1 : Hid (Blk w1 D 162 (dg s0 x 0 L)) := by
    have h := HD.out.set_ 73 (.int .u64 L)
    rw [dg_set_len HX.out] at h
    rw [hw1]
    exact h
  have HG1 : Hid (w.grownBy w1 (some D)) := by rw [hw1]; exact grown_setCell (World.grownBy.refl w _) _ _
  have HP1 : Hid (∀ j, j < n → w1.cell? ⟨g, o + j, none⟩ = some (.int .u8 (P.getD j 0))) := fun j hj =>
    (World.cell?_of_block (a := ⟨g, o + j, none⟩) (HG1.out.block g HG.out (fun e => hgD (Option.some.inj e)))).trans (HP.out j hj)
  have HK1 : Hid (KAt w1 K) := fun i hi => (World.cell?_of_block (a := ⟨7, i, none⟩) (HG1.out.block 7 H7.out (fun e => h7D (Option.some.inj e)))).trans (HK.out i hi)
  rw [← hw1]
  clear hw1 eL c72 c73 f73
  go_cut [1] from 8 (fun s1 wx => ∃ (A' : Option Addr) (c' : Nat), s1 = .slice A' q c' ∧ Hid (0 < q → A' = some ⟨g, o + nn, none⟩) ∧ Hid (Blk wx D 162 (dg S1 x 0 L)) ∧ Hid (w.grownBy wx (some D)))
  case first =>
    by_cases h64 : 64 ≤ n
    · have b64 : (64 : Int) ≤ (n : Int) := by omega
      have eA : bits .andNot .i64 (n : Int) 63 = (nn : Int) := by rw [andNot63 n hn, ← Hmn.out, hnn]
      have b6 : ¬ (65536 : Int) < (nn : Int) := by have := hsum.out; omega
      have bnn : (nn : Int) ≤ (n : Int) := by have := hsum.out; omega
      have bnc : (nn : Int) ≤ (c : Int) := by have := hsum.out; omega
      have CB : Hid (Calls Tryd.prog 140 #[.pointer (some ⟨D, 0, none⟩), .slice (some ⟨g, o, none⟩) nn c] w1 fun E w' => E = .returned (.tuple #[]) ∧ Blk w' D 162 (dg S1 x 0 L) ∧ w1.grownBy w' (some D)) := by
        show Calls _ _ _ _ _
        rw [← hnn, HS1.out]
        exact shaBlock_any D g o c m s0 x P 0 L K r hr64 w1 HD1.out HX.out (by have := hsum.out; omega) (by have := hsum.out; omega) (fun j hj => HP1.out j (by have := hsum.out; omega)) (Nat.lt_of_lt_of_le HG.out HG1.out.size) HK1.out (Nat.lt_of_lt_of_le H7.out HG1.out.size)
      go_wp2_with fail
      go_loopw [1, 7] (fun vp v wr => vp = .slice (some ⟨g, o, none⟩) n c ∧ v = .int .i64 (nn : Int) ∧ wr = w1) (fun _ _ _ => 0)
      case atStart => exact ⟨rfl, rfl, rfl⟩
      case round =>
        obtain ⟨rfl, rfl, rfl⟩ := hrel
        go_wp2_with fail
        refine CB.out.mono ?_
        rintro E w2 ⟨rfl, hD2, hg2⟩
        have HD2 := Lib.hid hD2
        have HG2 : Hid (w.grownBy w2 (some D)) := by
          exact ⟨hg2.os.trans HG1.out.os, hg2.tape.trans HG1.out.tape, hg2.output.trans HG1.out.output, Nat.le_trans HG1.out.size hg2.size, fun i hi hne => (hg2.block i (Nat.lt_of_lt_of_le hi HG1.out.size) hne).trans (HG1.out.block i hi hne)⟩
        clear hD2 hg2
        by_cases hcn : c = nn
        all_goals
          go_wp2_with fail
          go_meet
          refine ⟨_, _, by rw [show n - nn = q by have := hsum.out; omega], ?_, HD2, HG2⟩
          intro hq0
          have hs := hsum.out
          first
            | (exfalso; omega)
            | rfl
    · have b64 : ¬ (64 : Int) ≤ (n : Int) := by omega
      have hm0 : m = 0 := by have := Hmn.out; omega
      have hn0 : nn = 0 := by omega
      have hS : S1 = s0 := by rw [HS1.out, hm0]; rfl
      go_wp2_with fail
      go_meet
      refine ⟨_, _, by rw [show q = n by have := hsum.out; omega], ?_, by rw [hS]; exact HD1, HG1⟩
      intro _
      rw [hn0]
      rfl
  case rest =>
    obtain ⟨A', c', rfl, HA, HDc, HGc⟩ := hcut
    clear HD1 HG1 HP1 HK1
    rcases Nat.eq_zero_or_pos q with h0 | h0
    · have b0 : ¬ (0 : Int) < (q : Int) := by omega
      have hys : ys = [] := List.eq_nil_of_length_eq_zero (by rw [Hyl.out]; exact h0)
      go_wp2_with fail
      go_ret2
      refine ⟨⟨_, rfl⟩, ?_, HGc.out⟩
      rw [lay_nil]
      exact HDc.out
    · have b0 : (0 : Int) < (q : Int) := by omega
      obtain rfl := HA.out h0
      have HPc : Hid (∀ j v, (ivals ys)[j]? = some v → wc.cell? ((⟨g, o + nn, none⟩ : Addr).add j) = some v) := by
        intro j v hv
        have hj : j < ys.length := by
          rcases Nat.lt_or_ge j (ivals ys).length with h | h
          · rwa [ivals_length] at h
          · rw [List.getElem?_eq_none h] at hv; cases hv
        have hjq : j < q := by rw [← Hyl.out]; exact hj
        have e : (⟨g, o + nn, none⟩ : Addr).add j = ⟨g, o + (nn + j), none⟩ := by rw [← Nat.add_assoc]; unfold Addr.add; split <;> simp_all
        rw [e, World.cell?_of_block (a := ⟨g, o + (nn + j), none⟩) (HGc.out.block g HG.out (fun e => hgD (Option.some.inj e))), HP.out _ (by have := hsum.out; omega), ← hv, ivals_get hj, Hys.out, List.getD_eq_getElem?_getD, List.getD_eq_getElem?_getD, List.getElem?_drop]
      go_wp2_with (refine wpList_copy_blk rfl (.tmp 90) (.tmp 91) 22 22 rfl 5 Tryd.underlying22 info5c _ _ 64 64 q c' rfl rfl D 8 (dg S1 x 0 L) 162 HDc.out (ivals ys) (by rw [ivals_length, Hyl.out]; exact (Nat.min_eq_left (by omega)).symm) (fun _ => ⟨rfl, _, rfl, HPc.out⟩) (by rw [ivals_length, Hyl.out, dg_length HX.out]; omega) ivals_one ?_; intro w3 hD3 hg3; have HD3 : Hid (Blk w3 D 162 (dg S1 (lay x 0 ys) 0 L)) := (by have e := dg_splice (s := S1) (nx := 0) (len := L) (k := 0) HX.out (by rw [Hyl.out]; omega : 0 + ys.length ≤ 64); rw [Nat.add_zero] at e; rw [e] at hD3; exact hD3); have HG3 := Lib.hid hg3; have c72 : w3.cell? ⟨D, 72, none⟩ = some (.int .i64 0) := (by rw [HD3.out.cell, dg_nx (by rw [lay_length (by rw [Hyl.out, HX.out]; omega), HX.out])]); have f72 : w3.frozen? ⟨D, 72, none⟩ = false := HD3.out.frozen _)
      go_ret2
      refine ⟨⟨_, rfl⟩, ?_, ?_⟩
      · have h := HD3.out.set_ 72 (.int .i64 ((q : Nat) : Int))
        rw [dg_set_nx (by rw [lay_length (by rw [Hyl.out, HX.out]; omega), HX.out])] at h
        rw [show (ivals ys).length = q by rw [ivals_length, Hyl.out]]
        exact h
      · exact grown_setCell ⟨HG3.out.os.trans HGc.out.os, HG3.out.tape.trans HGc.out.tape, HG3.out.output.trans HGc.out.output, Nat.le_trans HGc.out.size HG3.out.size, fun i hi hne => (HG3.out.block i (Nat.lt_of_lt_of_le hi HGc.out.size) hne).trans (HGc.out.block i hi hne)⟩ _ _

set_option maxRecDepth 100000 in
set_option maxHeartbeats 8000000 in
/-- Onto a buffer with k bytes in it, which is filled; behind it nothing is left, or a block. -/
theorem write1_any (D g o n c k : Nat) (s0 : S8) (x P : List Int) (len : Int) (K : Nat → Int) (r : Nat) (hr64 : r = 64) (w : World) (hk0 : 0 < k) (hk : k < 64) (hD : Blk w D 162 (dg s0 x (k : Int) len)) (hx : x.length = 64) (hn : n + k = 64 ∨ n + k = 128) (hPl : P.length = n) (hnc : n ≤ c)
    (hP : ∀ j, j < n → w.cell? ⟨g, o + j, none⟩ = some (.int .u8 (P.getD j 0))) (hg : g < w.heap.size) (hgD : g ≠ D) (hK : KAt w K) (h7 : 7 < w.heap.size) (h7D : 7 ≠ D) :
    Calls Tryd.prog 137 #[.pointer (some ⟨D, 0, none⟩), .slice (some ⟨g, o, none⟩) n c] w fun E w' => (∃ v, E = .returned v) ∧ Blk w' D 162 (dg (kBlocks r K (P.drop (64 - k)) (kBlocks r K (lay x k (P.take (64 - k))) s0 1).2 ((n - (64 - k)) / 64)).2 (lay x k (P.take (64 - k))) 0 (IntKind.u64.wrap (len + (n : Int)))) ∧ w.grownBy w' (some D) := by
  have c72 : w.cell? ⟨D, 72, none⟩ = some (.int .i64 (k : Int)) := by rw [hD.cell, dg_nx hx]
  have c73 : w.cell? ⟨D, 73, none⟩ = some (.int .u64 len) := by rw [hD.cell, dg_len hx]
  have f73 : w.frozen? ⟨D, 73, none⟩ = false := hD.frozen _
  have wn : IntKind.u64.wrap (n : Int) = (n : Int) := IntWalk.u64_in _ (by omega)
  obtain ⟨L, HL⟩ : ∃ L, Hid (L = IntKind.u64.wrap (len + (n : Int))) := ⟨_, rfl⟩
  obtain ⟨a, ha⟩ : ∃ a, 64 - k = a := ⟨_, rfl⟩
  rw [ha]
  obtain ⟨e, he⟩ : ∃ e, n - a = e := ⟨_, rfl⟩
  rw [he]
  have hae : a + k = 64 ∧ n = a + e ∧ (e = 0 ∨ e = 64) := by omega
  obtain ⟨X, HXX⟩ : ∃ X, Hid (X = lay x k (P.take a)) := ⟨_, rfl⟩
  have htl : (P.take a).length = a := by rw [List.length_take, hPl]; omega
  have HX1 : Hid (X.length = 64) := by show _ = _; rw [HXX.out, lay_length (by omega), hx]
  obtain ⟨S1, HS1⟩ : ∃ S1, Hid (S1 = (kBlocks r K X s0 1).2) := ⟨_, rfl⟩
  obtain ⟨S2, HS2⟩ : ∃ S2, Hid (S2 = (kBlocks r K (P.drop a) S1 (e / 64)).2) := ⟨_, rfl⟩
  rw [← HXX.out, ← HS1.out, ← HS2.out, ← HL.out]
  have HAE := Lib.hid hae
  have HTL := Lib.hid htl
  have HD := Lib.hid hD
  have HX := Lib.hid hx
  have HP := Lib.hid hP
  have HG := Lib.hid hg
  have HK := Lib.hid hK
  have H7 := Lib.hid h7
  have HPL := Lib.hid hPl
  have HN := Lib.hid hn
  have hDl := hD.lt
  have eL := HL.out.symm
  have bk0 : (0 : Int) < (k : Int) := by omega
  have bka : (k : Int) + (a : Int) = 64 := by omega
  have bk64 : (k : Int) ≤ 64 := by omega
  have nk : ¬ 64 = k := by omega
  have ek : 64 - k = a := ha
  have ban : (a : Int) ≤ (n : Int) := by omega
  have bac : (a : Int) ≤ (c : Int) := by omega
  have ene : n - a = e := he
  have HKA : Hid (a ≤ n ∧ a ≤ 64 ∧ 0 < a) := ⟨by omega, by omega, by omega⟩
  clear hD hx hP hg hK h7 hPl ha he hae htl hn
  obtain ⟨w1, hw1⟩ : ∃ w1, w1 = w.setCell ⟨D, 73, none⟩ (.int .u64 L) := ⟨_, rfl⟩
  have HD1 : Hid (Blk w1 D 162 (dg s0 x (k : Int) L)) := by
    have h := HD.out.set_ 73 (.int .u64 L)
    rw [dg_set_len HX.out] at h
    rw [hw1]
    exact h
  have HG1 : Hid (w.grownBy w1 (some D)) := by rw [hw1]; exact grown_setCell (World.grownBy.refl w _) _ _
  have HPX : Hid (∀ w2, w.grownBy w2 (some D) → ∀ j, j < n → w2.cell? ⟨g, o + j, none⟩ = some (.int .u8 (P.getD j 0))) := fun w2 h2 j hj =>
    (World.cell?_of_block (a := ⟨g, o + j, none⟩) (h2.block g HG.out (fun e => hgD (Option.some.inj e)))).trans (HP.out j hj)
  have HPc : Hid (∀ j v, (ivals (P.take a))[j]? = some v → w1.cell? ((⟨g, o, none⟩ : Addr).add j) = some v) := by
    intro j v hv
    have hj : j < (P.take a).length := by
      rcases Nat.lt_or_ge j (ivals (P.take a)).length with h | h
      · rwa [ivals_length] at h
      · rw [List.getElem?_eq_none h] at hv; cases hv
    have hja : j < a := by rw [← HTL.out]; exact hj
    have e : (⟨g, o, none⟩ : Addr).add j = ⟨g, o + j, none⟩ := by unfold Addr.add; split <;> simp_all
    rw [e, HPX.out w1 HG1.out j (by have := HKA.out; omega), ← hv, ivals_get hj, List.getD_eq_getElem?_getD, List.getD_eq_getElem?_getD, List.getElem?_take]
    simp [hja]
  have d72 : w1.cell? ⟨D, 72, none⟩ = some (.int .i64 (k : Int)) := by rw [HD1.out.cell, dg_nx HX.out]
  go_enter Tryd.func137, Tryd.ntmps137
  go_upto_region 4 with fail
  rw [← hw1]
  clear hw1 eL c72 c73 f73
  go_still_tail 9, (by kernel_rfl)
  obtain ⟨w2, hw2⟩ : ∃ w2, w2 = w1.drewN 1 := ⟨_, rfl⟩
  change wpList _ _ _ _ _ (w1.drewN 1)
  rw [← hw2]
  have HD2 : Hid (Blk w2 D 162 (dg s0 x (k : Int) L)) := by rw [hw2]; exact HD1.out.drewN 1
  have HG2 : Hid (w.grownBy w2 (some D)) := by rw [hw2]; exact grown_drewN HG1.out 1
  have HPc2 : Hid (∀ j v, (ivals (P.take a))[j]? = some v → w2.cell? ((⟨g, o, none⟩ : Addr).add j) = some v) := by rw [hw2]; exact HPc.out
  have el : (ivals (P.take a)).length = a := by rw [ivals_length, HTL.out]
  clear hw2 d72 HD1 HG1 HPc
  go_wp2_with (refine wpList_copy_blk rfl (.tmp 31) (.tmp 32) 22 22 rfl 5 Tryd.underlying22 info5c _ _ a a n c rfl rfl D (8 + k) (dg s0 x (k : Int) L) 162 HD2.out (ivals (P.take a)) (by rw [ivals_length, HTL.out]; exact (Nat.min_eq_right HKA.out.1).symm) (fun _ => ⟨rfl, _, rfl, HPc2.out⟩) (by rw [ivals_length, HTL.out, dg_length HX.out]; have := HAE.out; omega) ivals_one ?_; intro w3 hD3 hg3; have HD3 : Hid (Blk w3 D 162 (dg s0 X (k : Int) L)) := (by rw [dg_splice HX.out (by have := HAE.out; rw [HTL.out]; omega), ← HXX.out] at hD3; exact hD3); have HG3 : Hid (w.grownBy w3 (some D)) := grown_trans HG2.out hg3; clear hD3 hg3; have c72 : w3.cell? ⟨D, 72, none⟩ = some (.int .i64 (k : Int)) := (by rw [HD3.out.cell, dg_nx HX1.out]); have f72 : w3.frozen? ⟨D, 72, none⟩ = false := HD3.out.frozen _)
  have hD4 := HD3.out.set_ 72 (.int .i64 64)
  rw [dg_set_nx HX1.out] at hD4
  have hG4 : w.grownBy (w3.setCell ⟨D, 72, none⟩ (.int .i64 64)) (some D) := grown_setCell HG3.out _ _
  refine (shaBlock_any D D 8 64 1 s0 X X 64 L K r hr64 _ hD4 HX1.out (by omega) (by omega) (fun j hj => by rw [hD4.cell, dg_x HX1.out (by omega)]) hD4.lt (HK.out.grown hG4 H7.out h7D) (Nat.lt_of_lt_of_le H7.out hG4.size)).mono ?_
  rintro E w5 ⟨rfl, hD5, hg5⟩
  rw [← HS1.out] at hD5
  have HD5 := Lib.hid hD5
  have HG5 : Hid (w.grownBy w5 (some D)) := grown_trans hG4 hg5
  have c72' : w5.cell? ⟨D, 72, none⟩ = some (.int .i64 64) := by rw [HD5.out.cell, dg_nx HX1.out]
  have f72' : w5.frozen? ⟨D, 72, none⟩ = false := HD5.out.frozen _
  have HD6 : Hid (Blk (w5.setCell ⟨D, 72, none⟩ (.int .i64 0)) D 162 (dg S1 X 0 L)) := by
    have h := HD5.out.set_ 72 (.int .i64 0)
    rw [dg_set_nx HX1.out] at h
    exact h
  have HG6 : Hid (w.grownBy (w5.setCell ⟨D, 72, none⟩ (.int .i64 0)) (some D)) := grown_setCell HG5.out _ _
  clear hD4 hG4 hD5 hg5 c72 f72
  rcases HAE.out.2.2 with rfl | rfl
  · have hS : S2 = S1 := by rw [HS2.out]; rfl
    by_cases hca : c = a
    all_goals
      go_wp2_with fail
      go_ret2
      refine ⟨⟨_, rfl⟩, ?_, HG6.out⟩
      rw [hS]
      exact HD6.out
  · have hca : ¬ c = a := by have := HAE.out; omega
    have eA : bits .andNot .i64 64 63 = 64 := by decide
    have b64c : (64 : Int) ≤ ((c - a : Nat) : Int) := by have := HAE.out; omega
    obtain ⟨w6, hw6⟩ : ∃ w6, w6 = w5.setCell ⟨D, 72, none⟩ (.int .i64 0) := ⟨_, rfl⟩
    rw [← hw6] at HD6 HG6
    obtain ⟨oa, hoa⟩ : ∃ oa, o + a = oa := ⟨_, rfl⟩
    obtain ⟨ca, hcca⟩ : ∃ ca, c - a = ca := ⟨_, rfl⟩
    rw [hcca] at b64c
    have HOA := Lib.hid hoa
    have CB : Hid (Calls Tryd.prog 140 #[.pointer (some ⟨D, 0, none⟩), .slice (some ⟨g, oa, none⟩) 64 ca] w6 fun E w' => E = .returned (.tuple #[]) ∧ Blk w' D 162 (dg S2 X 0 L) ∧ w6.grownBy w' (some D)) := by
      show Calls _ _ _ _ _
      rw [HS2.out]
      refine shaBlock_any D g oa ca 1 S1 X (P.drop a) 0 L K r hr64 w6 HD6.out HX1.out (by omega) (by omega) (fun j hj => ?_) (Nat.lt_of_lt_of_le HG.out HG6.out.size) (HK.out.grown HG6.out H7.out h7D) (Nat.lt_of_lt_of_le H7.out HG6.out.size)
      rw [getD_drop, show oa + j = o + (a + j) by have := HOA.out; omega]
      exact HPX.out w6 HG6.out (a + j) (by have := HAE.out; omega)
    go_upto_if 61 with fail
    rw [← hw6]
    clear hw6 c72' f72'
    go_wp2_with fail
    go_loopw [1, 7] (fun vp v wr => vp = .slice (some ⟨g, oa, none⟩) 64 ca ∧ v = .int .i64 64 ∧ wr = w6) (fun _ _ _ => 0)
    case atStart => exact ⟨rfl, rfl, rfl⟩
    case round =>
      obtain ⟨rfl, rfl, rfl⟩ := hrel
      go_wp2_with fail
      refine CB.out.mono ?_
      rintro E w7 ⟨rfl, hD7, hg7⟩
      have HD7 := Lib.hid hD7
      have HG7 : Hid (w.grownBy w7 (some D)) := grown_trans HG6.out hg7
      clear hD7 hg7
      by_cases hc64 : ca = 64
      all_goals
        go_wp2_with fail
        go_ret2
        exact ⟨⟨_, rfl⟩, HD7.out, HG7.out⟩
end Go.Proofs.YtlnifplomlnoiaaDoor
