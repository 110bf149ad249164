/- spec.Decrypt. -/
import Derived.Test.YtlnifplomlnoiaaDoorSpecEnc
import Derived.Test.YtlnifplomlnoiaaDoorSpecFnD
namespace Go.Proofs.YtlnifplomlnoiaaDoor
open Go.RowKit

set_option maxRecDepth 1000000 in
set_option maxHeartbeats 8000000 in
theorem specDecrypt_any (A A2 : Option Addr) (n c c2 t1 : Nat) (key blk : List UInt8) (w : World) (hr : Rd w w.heap.size A n (bvals key)) (hr2 : Rd w w.heap.size A2 8 (bvals blk)) (hn0 : 1 ≤ n) (hn : n ≤ 128) (ht0 : 1 ≤ t1) (ht1 : t1 ≤ 1024) :
    Calls Tryd.prog 15 #[.slice A n c, .int .i64 (t1 : Int), .slice A2 8 c2] w fun E w' => ∃ v, E = .returned v ∧ w'.ownsRow w.heap.size 5 1 v 8 (ivals (block (decS (Kof piT key t1) (words (ints blk))))) ∧ Below w.heap.size w w' := by
  obtain ⟨i0, hi, hz0, hz1, hz2⟩ := info_parts info55
  obtain ⟨j0, hj, hy0, hy1, hy2⟩ := info_parts info57
  obtain ⟨X, hX⟩ : ∃ X, X = nvals .i64 (expanded piT (nums key) t1) := ⟨_, rfl⟩
  have hXl : X.length = 64 := by rw [hX, nvals_length, expanded_length]
  have hX1 : ∀ u ∈ X, u.oneCell' = true := by rw [hX]; exact nvals_one
  obtain ⟨s0, hs0⟩ : ∃ s0, s0 = words (ints blk) := ⟨_, rfl⟩
  obtain ⟨Y, hY⟩ : ∃ Y, Y = rvals s0 := ⟨_, rfl⟩
  have hYl : Y.length = 4 := by rw [hY]; rfl
  have hY1 : ∀ u ∈ Y, u.oneCell' = true := by rw [hY]; exact rvals_one s0
  have h8 : blk.length = 8 := by rw [← bvals_length]; exact hr2.1
  have hOk0 : Ok4 s0 := by rw [hs0]; exact ok_words ints_le (by rw [ints_length]; exact h8)
  obtain ⟨K, hK⟩ : ∃ K, K = Kof piT key t1 := ⟨_, rfl⟩
  have hKo : ∀ j, 0 ≤ K j ∧ K j ≤ 65535 := by rw [hK]; exact Kof_ok piT piT_le key t1
  have hXK : ∀ j, j < 64 → X[j]? = some (.int .i64 (K j)) := fun j hj => by
    rw [hX, nvals_getD (by rw [expanded_length]; exact hj), hK]
    rfl
  have call1 := specExpanded_any A n c t1 (nums key) w (by rw [nvals_nums]; exact hr) nums_le hn0 hn ht0 ht1
  rw [← hX] at call1
  rw [← hK, ← hs0]
  have C1 := Lib.hid call1
  have C2 : Hid (∀ w1, Below w.heap.size w w1 → Calls Tryd.prog 33 #[.slice A2 8 c2] w1 fun E w' => E = .returned (.agg Y.toArray) ∧ Below w1.heap.size w1 w') := by
    intro w1 h
    rw [hY, hs0]
    exact wordsOf_any A2 c2 blk w1 ((hr2.below h).more h.size)
  have HXK := Lib.hid hXK
  have HKo := Lib.hid hKo
  have HOk := Lib.hid hOk0
  have HYY := Lib.hid hY
  clear hX hs0 hY h8 hOk0 hK hKo hXK call1 hr hr2
  go_enter Tryd.func15, Tryd.ntmps15
  go_wp2_with fail
  refine C1.out.mono ?_
  rintro E w1 ⟨rfl, hb1⟩
  go_wp2_with fail
  refine (C2.out w1 hb1).mono ?_
  rintro E w2 ⟨rfl, hb2⟩
  go_wp2_with (first | (refine wpList_alloc_arr rfl 55 rfl _ i0 hi hz0 ?_; intro w3 Kb HKb hKb hb3 hs3) | (refine wpList_alloc_arr rfl 57 rfl _ j0 hj hy0 ?_; intro w4 Rb HRb hRb hb4 hs4) | (refine wpList_store_blk rfl 55 (.tmp 7) (.tmp 14) rfl Kb 55 _ X rfl rfl (hKb.below hb4 hKb.lt) (by rw [hXl]; rfl) (by rw [hi]; simp [hz1, hXl]) hX1 ?_; intro w5 hK5 hg5 hs5; replace hK5 := Lib.hid hK5) | (refine wpList_store_blk rfl 57 (.tmp 8) (.tmp 16) rfl Rb 57 _ Y rfl rfl (hRb.grown hg5 (by have := HRb.out; have := hKb.lt; simp; omega)) (by rw [hYl]; rfl) (by rw [hj]; simp [hy1, hYl]) hY1 ?_; intro w6 hR6 hg6 hs6; replace hR6 := Lib.hid hR6))
  have hord : Hid (Kb < Rb ∧ w.heap.size ≤ Kb) := by
    have a1 := hKb.lt
    have a2 := HKb.out
    have a3 := HRb.out
    have a4 := hb1.size
    have a5 := hb2.size
    exact ⟨by omega, by omega⟩
  have HB : Hid (Below w.heap.size w w6) := by
    have h1 := hb1.trans (hb2.mono hb1.size)
    have h2 := h1.trans (hb3.mono h1.size)
    have h3 := h2.trans (hb4.mono h2.size)
    have h4 := h3.trans (below_of_grown hg5 hord.out.2 h3.size)
    exact h4.trans (below_of_grown hg6 (by have := hord.out; omega) h4.size)
  have HK6 : Hid (Blk w6 Kb 55 X) := hK5.out.grown hg6 (by have := hord.out; simp; omega)
  have h65 := i64_and65535
  clear hb1 hb2 HKb hKb hb3 hs3 HRb hRb hb4 hs4 hg5 hs5 hg6 hs6 hK5
  go_loopw [9] (fun jj wr => ∃ (n d : Nat) (s : S4), jj = .int .i64 ((d : Int) - 1) ∧ Hid (n + d = 64) ∧ d ≤ 64 ∧ Hid (s = runD K s0 n) ∧ Hid (Ok4 s) ∧ Hid (Blk wr Kb 55 X) ∧ Hid (Blk wr Rb 57 (rvals s)) ∧ Hid (Below w.heap.size w wr)) (fun jj _ => (match jj with | .int _ z => (z + 1).toNat | _ => 0))
  case atStart => exact ⟨0, 64, s0, rfl, rfl, by omega, rfl, HOk, HK6, by rw [← HYY.out]; exact hR6, HB⟩
  case round =>
    clear HB HK6 hR6 HOk
    obtain ⟨n', d', s, rfl, HN, hd64, HS, HOk, HKw, HRw, HBw⟩ := hrel
    rcases Nat.eq_zero_or_pos d' with h0 | h0
    · have hd0 : (d' : Int) - 1 = -1 := by omega
      have hn64 : n' = 64 := by have := HN.out; omega
      have hfin : s = decS K s0 := by rw [HS.out, hn64, runD_all]
      have HFin := Lib.hid hfin
      obtain ⟨a, b, c, d⟩ := s
      have c0 : wr.cell? ⟨Rb, 0, none⟩ = some (.int .i64 a) := by rw [HRw.out.cell]; rfl
      have c1 : wr.cell? ⟨Rb, 1, none⟩ = some (.int .i64 b) := by rw [HRw.out.cell]; rfl
      have c2' : wr.cell? ⟨Rb, 2, none⟩ = some (.int .i64 c) := by rw [HRw.out.cell]; rfl
      have c3 : wr.cell? ⟨Rb, 3, none⟩ = some (.int .i64 d) := by rw [HRw.out.cell]; rfl
      clear h0 hd64 hfin hn64
      go_wp2_with fail
      refine (blockOf_any a b c d wr HOk.out).mono ?_
      rintro E w9 ⟨v, rfl, ho, hb9⟩
      replace ho := Lib.hid ho
      go_wp2_with fail
      go_ret
      refine ⟨v, rfl, ?_, HBw.out.trans (hb9.mono HBw.out.size)⟩
      rw [← HFin.out]
      exact own_base ho.out HBw.out.size
    · obtain ⟨j, hj⟩ : ∃ j : Nat, (d' : Int) - 1 = (j : Int) := ⟨d' - 1, by omega⟩
      have HJ : Hid (n' + j = 63) := by have := HN.out; show _ = _; omega
      have HJd : Hid (d' = j + 1) := by show _ = _; omega
      rw [hj]
      have hlt : j < 64 := by omega
      clear hj h0 hd64
      obtain ⟨i, hi4, htm, hij⟩ : ∃ i : Nat, i < 4 ∧ Int.tmod (j : Int) 4 = (i : Int) ∧ Hid (j % 4 = i) := ⟨j % 4, by omega, by rw [Int.tmod_eq_emod_of_nonneg (by omega)]; omega, rfl⟩
      have wi : IntKind.i64.wrap (i : Int) = (i : Int) := IntWalk.i64_in _ (by omega)
      have wj1 : IntKind.i64.wrap ((j : Int) - 1) = (j : Int) - 1 := IntWalk.i64_in _ (by omega)
      have bj : (j : Int) < 64 := by omega
      have bi : (i : Int) < 4 := by omega
      obtain ⟨mb, HM⟩ : ∃ mb : Bool, Hid (mb = decide (j = 19 ∨ j = 43)) := ⟨_, rfl⟩
      go_upto_region 5 with fail
      go_cut [9, 26] from 17 to 77 (fun s9 s26 wx => s9 = .int .i64 (j : Int) ∧ s26 = .bool mb ∧ Hid (Blk wx Kb 55 X) ∧ Hid (Blk wx Rb 57 (rvals s)) ∧ Hid (Below w.heap.size w wx))
      case first =>
        have htest : (((j : Int) == 19) = true ∧ mb = true) ∨ (((j : Int) == 19) = false ∧ ((j : Int) == 43) = true ∧ mb = true) ∨ (((j : Int) == 19) = false ∧ ((j : Int) == 43) = false ∧ mb = false) := by
          rw [HM.out]
          by_cases e1 : j = 19
          · exact Or.inl ⟨by subst e1; rfl, by simp [e1]⟩
          · by_cases e2 : j = 43
            · exact Or.inr (Or.inl ⟨by subst e2; rfl, by subst e2; rfl, by simp [e2]⟩)
            · exact Or.inr (Or.inr ⟨by simp; omega, by simp; omega, by simp [e1, e2]⟩)
        clear HM
        rcases htest with ⟨d1, rfl⟩ | ⟨d1, d2, rfl⟩ | ⟨d1, d2, rfl⟩
        all_goals
          go_wp2_with fail
          go_meet
          exact ⟨rfl, rfl, HKw, HRw, HBw⟩
      case rest =>
        obtain ⟨rfl, rfl, HKa, HRa, HBa⟩ := hcut
        clear HKw HRw HBw
        obtain ⟨s1, Hs1⟩ : ∃ s1, Hid (s1 = if mb = true then unmashes K s 4 else s) := ⟨_, rfl⟩
        go_upto_if 26 with fail
        go_cut [9] from 17 to 77 (fun s9 wx => s9 = .int .i64 (j : Int) ∧ Hid (Ok4 s1) ∧ Hid (Blk wx Kb 55 X) ∧ Hid (Blk wx Rb 57 (rvals s1)) ∧ Hid (Below w.heap.size w wx))
        case first =>
          cases mb with
          | false =>
            have he : s1 = s := Hs1.out
            subst he
            go_wp2_with fail
            go_meet
            exact ⟨rfl, HOk, HKa, HRa, HBa⟩
          | true =>
            have he : s1 = unmashes K s 4 := Hs1.out
            have HE := Lib.hid he
            have h63 := i64_and63
            clear he Hs1 HM
            go_wp2_with fail
            go_loopw [10] (fun mm wr => ∃ m e : Nat, mm = .int .i64 ((e : Int) - 1) ∧ Hid (m + e = 4) ∧ e ≤ 4 ∧ Hid (Ok4 (unmashes K s m)) ∧ Hid (Blk wr Kb 55 X) ∧ Hid (Blk wr Rb 57 (rvals (unmashes K s m))) ∧ Hid (Below w.heap.size w wr)) (fun mm _ => (match mm with | .int _ z => (z + 1).toNat | _ => 0))
            case atStart => exact ⟨0, 4, rfl, rfl, by omega, HOk, HKa, HRa, HBa⟩
            case round =>
              clear HOk HKa HRa HBa
              obtain ⟨m, e, rfl, HMe, he4, HOm, HKm, HRm, HBm⟩ := hrel
              rcases Nat.eq_zero_or_pos e with h0 | h0
              · have he0 : (e : Int) - 1 = -1 := by omega
                have hm4 : m = 4 := by have := HMe.out; omega
                rw [hm4, ← HE.out] at HOm HRm
                clear h0 he4 hm4
                go_wp2_with fail
                go_meet
                exact ⟨rfl, HOm, HKm, HRm, HBm⟩
              · obtain ⟨b, hb⟩ : ∃ b : Nat, (e : Int) - 1 = (b : Int) := ⟨e - 1, by omega⟩
                rw [hb]
                obtain ⟨p, hp⟩ : ∃ p : Nat, (b : Int) + 3 = (p : Int) := ⟨b + 3, by omega⟩
                have hb4 : b < 4 := by omega
                have HBE : Hid (e = b + 1 ∧ m + b = 3) := by have := HMe.out; exact ⟨by omega, by omega⟩
                clear hb h0 he4
                have wp3 : IntKind.i64.wrap (p : Int) = (p : Int) := IntWalk.i64_in _ (by omega)
                have wb1 : IntKind.i64.wrap ((b : Int) - 1) = (b : Int) - 1 := IntWalk.i64_in _ (by omega)
                obtain ⟨q, hq, hq4, HQ⟩ : ∃ q : Nat, Int.tmod (p : Int) 4 = (q : Int) ∧ q < 4 ∧ Hid (q = (b + 3) % 4) := ⟨(b + 3) % 4, by rw [Int.tmod_eq_emod_of_nonneg (by omega)]; omega, by omega, rfl⟩
                obtain ⟨x, HX⟩ : ∃ x, Hid (x = gets (unmashes K s m) b) := ⟨_, rfl⟩
                obtain ⟨y, HY⟩ : ∃ y, Hid (y = gets (unmashes K s m) q) := ⟨_, rfl⟩
                have rx : 0 ≤ x ∧ x ≤ 65535 := by rw [HX.out]; exact gets_ok HOm.out _
                have ry : 0 ≤ y ∧ y ≤ 65535 := by rw [HY.out]; exact gets_ok HOm.out _
                obtain ⟨kk, hkk, hk64, HKK⟩ : ∃ kk : Nat, y % 64 = (kk : Int) ∧ kk < 64 ∧ Hid (kk = (y % 64).toNat) := ⟨(y % 64).toNat, by omega, by omega, rfl⟩
                obtain ⟨k, Hk⟩ : ∃ k, Hid (k = K kk) := ⟨_, rfl⟩
                have rk : 0 ≤ k ∧ k ≤ 65535 := by rw [Hk.out]; exact HKo.out _
                obtain ⟨z, hz⟩ : ∃ z, x - k = z := ⟨_, rfl⟩
                have wz : IntKind.i64.wrap z = z := IntWalk.i64_in _ (by omega)
                have wq : IntKind.i64.wrap (q : Int) = (q : Int) := IntWalk.i64_in _ (by omega)
                have bm : (b : Int) < 4 := by omega
                have bq : (q : Int) < 4 := by omega
                have bk : (kk : Int) < 64 := by omega
                have cm : wr.cell? ⟨Rb, b, none⟩ = some (.int .i64 x) := by rw [HRm.out.cell, rvals_get _ hb4, HX.out]
                have cq : wr.cell? ⟨Rb, q, none⟩ = some (.int .i64 y) := by rw [HRm.out.cell, rvals_get _ hq4, HY.out]
                have ck : wr.cell? ⟨Kb, kk, none⟩ = some (.int .i64 k) := by rw [HKm.out.cell, HXK.out kk hk64, Hk.out]
                have fm : wr.frozen? ⟨Rb, b, none⟩ = false := HRm.out.frozen _
                go_wp2_with fail
                go_still_tail 15, (by kernel_rfl)
                go_wp2_with fail
                go_roundw
                case rel =>
                  have hnew : Hid (unmashes K s (m + 1) = sets (unmashes K s m) b (z % 65536)) := by
                    show unmash1 K (3 - m) (unmashes K s m) = _
                    rw [show 3 - m = b by have := HBE.out; omega, unmash1, ← HQ.out, ← HY.out, ← HX.out, ← HKK.out, ← Hk.out, hz]
                  refine ⟨m + 1, b, by go_num, by have := HBE.out; show _ = _; omega, by omega, ?_, ?_, ?_, ?_⟩
                  · show Ok4 _
                    rw [hnew.out]
                    exact sets_ok HOm.out _ _ (by omega)
                  · exact (HKm.out.drewN 1).far (p := ⟨Rb, b, none⟩) (by have := hord.out; simp; omega) _
                  · show Blk _ _ _ _
                    rw [hnew.out, ← rvals_set _ hb4]
                    exact (HRm.out.drewN 1).set_ _ _
                  · exact (below_drewN HBm.out 1).setCell (p := ⟨Rb, b, none⟩) (by have := hord.out; simp; omega) _
                case measure => simp
        case rest =>
          obtain ⟨rfl, HO1, HKb, HRb', HBb⟩ := hcut
          clear HKa HRa HBa
          obtain ⟨x1, HX⟩ : ∃ x1, Hid (x1 = gets s1 i) := ⟨_, rfl⟩
          have rx : 0 ≤ x1 ∧ x1 ≤ 65535 := by rw [HX.out]; exact gets_ok HO1.out i
          obtain ⟨e, f, u, t, r, hsh, he5, hef, hf16, hu, hu0, hu1, ht, hr, hfin⟩ := unrot_facts i hi4 x1 rx.1 rx.2
          have HF := Lib.hid hfin
          have wu : IntKind.i64.wrap u = u := IntWalk.i64_in _ (by omega)
          have wf : IntKind.i64.wrap (f : Int) = (f : Int) := IntWalk.i64_in _ (by omega)
          have hm1 : min e 64 = e := by omega
          have hm2 : min f 64 = f := by omega
          have MS : Hid (∀ wx, Calls Tryd.prog 34 #[.int .i64 (i : Int)] wx fun E w' => E = .returned (.int .i64 (e : Int)) ∧ Below wx.heap.size wx w') := by
            intro wx
            rw [← hsh]
            exact shift_any i hi4 wx
          have ci : wc.cell? ⟨Rb, i, none⟩ = some (.int .i64 x1) := by rw [HRb'.out.cell, rvals_get _ hi4, HX.out]
          have fi : wc.frozen? ⟨Rb, i, none⟩ = false := HRb'.out.frozen _
          have hRlt : Rb < wc.heap.size := HRb'.out.lt
          clear hsh hfin
          go_upto_region 11 with fail
          go_cut [9] from 17 to 77 (fun s9 wx => s9 = .int .i64 (j : Int) ∧ Hid (Blk wx Kb 55 X) ∧ Hid (Blk wx Rb 57 (rvals (uhalf1 i s1))) ∧ Hid (Below w.heap.size w wx))
          case first =>
            go_region_with (go_at_call 34; refine (MS.out _).mono ?_; rintro E w7 ⟨rfl, hb7⟩; have BB : Hid (Below wc.heap.size wc w7) := (by first | exact BB.out.trans (hb7.mono BB.out.size) | exact ((Below.refl _ wc).drew).trans hb7); have ci7 : w7.cell? ⟨Rb, i, none⟩ = some (.int .i64 x1) := (BB.out.cell (p := ⟨Rb, i, none⟩) hRlt).trans ci; have fi7 : w7.frozen? ⟨Rb, i, none⟩ = false := (BB.out.frozen (p := ⟨Rb, i, none⟩) hRlt).trans fi)
            all_goals
              go_wp2_with fail
              go_meet
              refine ⟨rfl, ?_, ?_, ?_⟩
              · exact (HKb.out.below BB.out HKb.out.lt).far (p := ⟨Rb, i, none⟩) (by have := hord.out; simp; omega) _
              · show Blk _ _ _ _
                rw [uhalf1, ← HX.out, ← HF.out, ← rvals_set _ hi4]
                exact (HRb'.out.below BB.out HRb'.out.lt).set_ _ _
              · exact (HBb.out.trans (BB.out.mono HBb.out.size)).setCell (p := ⟨Rb, i, none⟩) (by have := hord.out; simp; omega) _
          case rest =>
            obtain ⟨rfl, HKc, HRc, HBc⟩ := hcut
            clear ci fi hRlt hu ht hr wu wf hm1 hm2 MS rx hef HKb HRb' HBb
            obtain ⟨s2, Hs2⟩ : ∃ s2, Hid (s2 = uhalf1 i s1) := ⟨_, rfl⟩
            have HO2 : Hid (Ok4 s2) := by
              show Ok4 _
              rw [Hs2.out, uhalf1, ← HX.out, ← HF.out]
              exact sets_ok HO1.out _ _ (by omega)
            rw [← Hs2.out] at HRc
            clear HX HF
            obtain ⟨x, HX⟩ : ∃ x, Hid (x = gets s2 i) := ⟨_, rfl⟩
            obtain ⟨k, Hk⟩ : ∃ k, Hid (k = K j) := ⟨_, rfl⟩
            obtain ⟨y, HY⟩ : ∃ y, Hid (y = addAt s2 i k) := ⟨_, rfl⟩
            have rx : 0 ≤ x ∧ x ≤ 65535 := by rw [HX.out]; exact gets_ok HO2.out i
            have ry : 0 ≤ y ∧ y ≤ 262144 := by rw [HY.out, Hk.out]; exact addAt_range HO2.out i (HKo.out j)
            obtain ⟨z, hz⟩ : ∃ z, x - y = z := ⟨_, rfl⟩
            have wz : IntKind.i64.wrap z = z := IntWalk.i64_in _ (by omega)
            have MX : Hid (∀ wx, Calls Tryd.prog 35 #[.agg (rvals s2).toArray, .int .i64 (i : Int), .int .i64 k] wx fun E w' => E = .returned (.int .i64 y) ∧ Below wx.heap.size wx w') := by
              intro wx
              rw [HY.out, Hk.out]
              exact mixed_any s2 HO2.out i hi4 (K j) (HKo.out j) wx
            obtain ⟨a, b, c, d⟩ := s2
            have cK : wc.cell? ⟨Kb, j, none⟩ = some (.int .i64 k) := by rw [HKc.out.cell, HXK.out j hlt, Hk.out]
            have c0 : wc.cell? ⟨Rb, 0, none⟩ = some (.int .i64 a) := by rw [HRc.out.cell]; rfl
            have c1 : wc.cell? ⟨Rb, 1, none⟩ = some (.int .i64 b) := by rw [HRc.out.cell]; rfl
            have c2' : wc.cell? ⟨Rb, 2, none⟩ = some (.int .i64 c) := by rw [HRc.out.cell]; rfl
            have c3 : wc.cell? ⟨Rb, 3, none⟩ = some (.int .i64 d) := by rw [HRc.out.cell]; rfl
            have ci : wc.cell? ⟨Rb, i, none⟩ = some (.int .i64 x) := by rw [HRc.out.cell, rvals_get _ hi4, HX.out]
            have fi : wc.frozen? ⟨Rb, i, none⟩ = false := HRc.out.frozen _
            have hRlt : Rb < wc.heap.size := HRc.out.lt
            have HO3 : Hid (Ok4 (uhalf2 K i j (a, b, c, d))) := by
              show Ok4 _
              rw [uhalf2]
              exact sets_ok HO2.out _ _ (by omega)
            have hst : Hid (runD K s0 (n' + 1) = uhalf2 K i j (a, b, c, d)) := by
              show stepD K (63 - n') (runD K s0 n') = _
              rw [← HS.out, show 63 - n' = j by have := HJ.out; omega, stepD, hij.out, Hs2.out, Hs1.out, HM.out]
              simp only [decide_eq_true_eq]
            go_upto_region 12 with fail
            go_region_with (go_at_call 35; refine (MX.out _).mono ?_; rintro E w7 ⟨rfl, hb7⟩; have BB : Hid (Below wc.heap.size wc w7) := ((Below.refl _ wc).drew).trans hb7; have ci7 : w7.cell? ⟨Rb, i, none⟩ = some (.int .i64 x) := (BB.out.cell (p := ⟨Rb, i, none⟩) hRlt).trans ci; have fi7 : w7.frozen? ⟨Rb, i, none⟩ = false := (BB.out.frozen (p := ⟨Rb, i, none⟩) hRlt).trans fi)
            all_goals
              go_wp2_with fail
              go_roundw
              case rel =>
                refine ⟨n' + 1, j, _, by go_num, by have := HJ.out; show _ = _; omega, by omega, hst.out.symm, HO3, ?_, ?_, ?_⟩
                · exact (HKc.out.below BB.out HKc.out.lt).far (p := ⟨Rb, i, none⟩) (by have := hord.out; simp; omega) _
                · show Blk _ _ _ _
                  rw [uhalf2, ← HX.out, ← Hk.out, ← HY.out, hz, ← rvals_set _ hi4]
                  exact (HRc.out.below BB.out HRc.out.lt).set_ _ _
                · exact (HBc.out.trans (BB.out.mono HBc.out.size)).setCell (p := ⟨Rb, i, none⟩) (by have := hord.out; simp; omega) _
              case measure => simp
end Go.Proofs.YtlnifplomlnoiaaDoor
