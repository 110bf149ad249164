/- pbkdf at two rounds over sha1Sum: the derivation as the function pbOut. -/
import Derived.Test.YtlnifplomlnoiaaDoorPbLem
import Derived.StillTailTactics
namespace Go.Proofs.YtlnifplomlnoiaaDoor
open Go.RowKit

set_option maxRecDepth 1000000 in
set_option maxHeartbeats 8000000 in
theorem pb1_any (As Ap : Option Addr) (sl sc pl pc size N : Nat) (ss ps : List Int) (id : Int) (w : World) (hs : Rd w w.heap.size As sl (ivals ss)) (hp : Rd w w.heap.size Ap pl (ivals ps)) (hsl : sl ≤ 200) (hpl : pl ≤ 200) (hsz0 : 1 ≤ size) (hsz : size ≤ 512) (hN : (size + 19) / 20 = N) (bs : ByteL ss) (bp : ByteL ps) :
    Calls Tryd.prog 56 #[.func (Fn.func 57) #[] #[], .int .i64 20, .int .i64 64, .slice As sl sc, .slice Ap pl pc, .int .i64 2, .int .u8 id, .int .i64 (size : Int)] w fun E w' => ∃ g cap, E = .returned (.slice (some ⟨g, 0, none⟩) size cap) ∧ size ≤ cap ∧ w.heap.size ≤ g ∧ Rd w' w'.heap.size (some ⟨g, 0, none⟩) size (ivals ((pbOut sha1 (List.replicate 64 id) (fillL ss ++ fillL ps) N).take size)) ∧ Below w.heap.size w w' := by
  obtain ⟨j0, hj, hy0, hy1, hy2⟩ := info_parts info5b
  obtain ⟨OUT, HOUT⟩ : ∃ OUT, Hid (OUT = pbOut sha1 (List.replicate 64 id) (fillL ss ++ fillL ps) N) := ⟨_, rfl⟩
  rw [← HOUT.out]
  have HS := Lib.hid hs
  have HP := Lib.hid hp
  have HN := Lib.hid hN
  have HBS := Lib.hid bs
  have HBP := Lib.hid bp
  clear hs hp hN bs bp
  go_enter Tryd.func56, Tryd.ntmps56
  go_wp2_with fail
  go_loopw [17, 18] (fun v jj wr => ∃ j : Nat, j ≤ 64 ∧ jj = .int .i64 (j : Int) ∧ Hid (wr.ownsRow w.heap.size 5 1 v j (ivals (List.replicate j id))) ∧ Hid (Below w.heap.size w wr)) (fun _ jj _ => 64 - (intOf jj).toNat)
  case atStart => exact ⟨0, by omega, rfl, World.ownsRow_nil _ _ _ _, Below.refl _ _⟩
  case round =>
    obtain ⟨j, hj64, rfl, HO, HB⟩ := hrel
    by_cases hlt : j < 64
    · have b1 : (j : Int) < 64 := by omega
      go_wp2_with (at_builtin; refine wpList_append_rd _ rfl _ _ 22 rfl w.heap.size 5 j0 (.int .u8 0) 1 Tryd.underlying22 hj hy0 hy1 hy2 rfl _ j (ivals (List.replicate j id)) rfl (HO.out.alloc _) (wr.heap.size + 1) _ 1 1 (ivals [id]) rfl (rd_new wr (ivals [id]).toArray 5 1 rfl) ivals_one (by omega) (by unfold maxLen; omega) (by have := HB.out.size; simp; omega) ?_; intro v2 w2 ha2; replace ha2 := Lib.hid ha2)
      go_roundw
      case rel =>
        refine ⟨j + 1, by omega, by go_num, ?_, ?_⟩
        · have h := ha2.out.own
          rw [← ivals_append] at h
          rw [List.replicate_succ']
          exact h
        · exact ha2.out.below (HB.out.alloc HB.out.size _) (HO.out.alloc _) (by have := HB.out.size; simp; omega)
      case measure => simp [intOf]; omega
    · have hj0 : ¬ (j : Int) < 64 := by omega
      have hje : j = 64 := by omega
      subst hje
      clear hlt hj64
      go_wp2_with fail
      refine (fill_any As sl sc ss wr ((HS.out.below HB.out).more HB.out.size) hsl).mono ?_
      rintro E w1 ⟨vS, rfl, hS, hb1⟩
      have HS1 := Lib.hid hS
      have HB1 := Lib.hid (HB.out.trans (hb1.mono HB.out.size))
      have Hb1 := Lib.hid hb1
      clear hS hb1
      go_wp2_with fail
      refine (fill_any Ap pl pc ps w1 ((HP.out.below HB1.out).more HB1.out.size) hpl).mono ?_
      rintro E w2 ⟨vP, rfl, hP, hb2⟩
      have HP2 := Lib.hid hP
      have hb2' := hb2
      have HS2 : Hid (InRow w.heap.size w2 vS (fillN sl) (fillL ss)) := (HS1.out.below hb2).base HB.out.size
      have HB2 : Hid (Below w.heap.size w w2) := HB1.out.trans (hb2.mono HB1.out.size)
      have Hb2 := Lib.hid (Hb1.out.trans (hb2.mono Hb1.out.size))
      clear hP hb2
      have HS1' : Hid (InRow wr.heap.size w2 vS (fillN sl) (fillL ss)) := HS1.out.below hb2'
      have nS : fillN sl ≤ 256 := by unfold fillN; omega
      have nP : fillN pl ≤ 256 := by unfold fillN; omega
      obtain ⟨cN, hcN⟩ : ∃ x : Nat, (size : Int) + 20 - 1 = (x : Int) := ⟨size + 19, by omega⟩
      have w1' : IntKind.i64.wrap ((size : Int) + 20) = (size : Int) + 20 := IntWalk.i64_in _ (by omega)
      have w2' : IntKind.i64.wrap (cN : Int) = (cN : Int) := IntWalk.i64_in _ (by omega)
      have t2 : Int.tdiv (cN : Int) 20 = (N : Int) := by have := HN.out; rw [Int.tdiv_eq_ediv_of_nonneg (by omega)]; omega
      have hN26 : N ≤ 26 := by have := HN.out; omega
      have hN1 : 1 ≤ N := by have := HN.out; omega
      obtain ⟨M, hM⟩ : ∃ M : Nat, (N : Int) * 20 = (M : Int) := ⟨N * 20, by omega⟩
      have w3' : IntKind.i64.wrap (N : Int) = (N : Int) := IntWalk.i64_in _ (by omega)
      have w4' : IntKind.i64.wrap (M : Int) = (M : Int) := IntWalk.i64_in _ (by omega)
      have HM : Hid (M = 20 * N) := by show _ = _; omega
      go_wp2_with (first
        | (at_make; refine wpList_make_blk rfl _ _ 22 rfl 5 j0 _ Tryd.underlying22 hj hy0 hy1 rfl _ _ M rfl rfl (by rw [hy2]; omega) (by omega) ?_; intro w4 ga HGa hBa hb4 hs4; replace hBa := Lib.hid hBa; replace hb4 := Lib.hid hb4)
        | (at_builtin; refine wpList_append_in rfl _ _ rfl j0 Tryd.underlying22 hj hy0 hy1 hy2 wr.heap.size vS vP (fillN sl) (fillN pl) (fillL ss) (fillL ps) HS1'.out (HP2.out.base Hb1.out.size) rfl rfl Hb2.out.size (by omega) (by omega) ?_; intro vI w3 hI hb3; replace hI := Lib.hid hI; replace hb3 := Lib.hid hb3))
      obtain ⟨D, HD⟩ : ∃ D, Hid (D = List.replicate 64 id) := ⟨_, rfl⟩
      obtain ⟨I0, HI0⟩ : ∃ I0, Hid (I0 = fillL ss ++ fillL ps) := ⟨_, rfl⟩
      obtain ⟨nI, hnI⟩ : ∃ nI, fillN sl + fillN pl = nI := ⟨_, rfl⟩
      have hnI2 : nI ≤ 512 := by omega
      have hI' := hI.out
      rw [hnI, ← HI0.out] at hI'
      obtain ⟨AI, cI, rfl, _⟩ := hI'.rd
      have HI := Lib.hid hI'
      have hbr4 : Below wr.heap.size wr w4 := (Hb2.out.trans (hb3.out.mono (Nat.le_refl _))).trans (hb4.out.mono (Nat.le_trans Hb2.out.size hb3.out.size))
      have hv17 := HO.out
      rw [← HD.out] at hv17
      have HDlt : Hid (∀ k, u17.ownBlock = some k → k < wr.heap.size) := fun k hk => (hv17.lt k hk).2
      have HO4 : Hid (w4.ownsRow w.heap.size 5 1 u17 64 (ivals D)) := own_keep hv17 (fun k hk => hbr4.block k (HDlt.out k hk))
      have HGb : Hid (wr.heap.size ≤ ga ∧ w.heap.size ≤ wr.heap.size ∧ ∀ k, (Value.slice AI nI cI).ownBlock = some k → 0 < nI → wr.heap.size ≤ k ∧ k < ga) := by
        refine ⟨?_, HB.out.size, ?_⟩
        · rw [HGa.out]; exact Nat.le_trans Hb2.out.size hb3.out.size
        · intro k hk h0
          rcases HI.out.2 with ⟨h1, _⟩ | ⟨_, g, cap, cs, h1, h2, h3, h4, h5, h6⟩
          · omega
          · rw [h1] at hk
            have hk' : g = k := Option.some.inj hk
            rw [← hk']
            exact ⟨h4, by rw [HGa.out]; exact h5.lt⟩
      have HI4 : Hid (InRow' wr.heap.size w4 (.slice AI nI cI) nI I0) := HI.out.keep (fun k hk h0 => hb4.out.block k (by rw [← HGa.out]; exact (HGb.out.2.2 k hk h0).2))
      have HB4 : Hid (Below w.heap.size w w4) := HB.out.trans (hbr4.mono HB.out.size)
      have HA4 : Hid (∃ csA, Blk w4 ga 5 csA ∧ csA.length = M ∧ csA.take (20 * 0) = ivals (pbOut sha1 D I0 0)) := ⟨_, hBa.out, by simp, rfl⟩
      obtain ⟨b1, hb1e⟩ : ∃ b1, wr.heap.size = b1 := ⟨_, rfl⟩
      rw [hb1e] at HGb HI4 HDlt
      clear hI hI' hnI hb3 hb4 hbr4 hv17 HO HB Hb1 Hb2 HS1 HS1' HB1 HP2 HB2 HI HGa hBa hs4 hb1e hcN t2 hM HS HP
      go_wp2_with fail
      go_loopw [24] (fun ii wr => ∃ i : Nat, i ≤ N ∧ ii = .int .i64 (i : Int) ∧ Hid (wr.ownsRow w.heap.size 5 1 u17 64 (ivals D)) ∧ Hid (i < N → InRow' b1 wr (.slice AI nI cI) nI (pbI sha1 D I0 i)) ∧ Hid (∃ csA, Blk wr ga 5 csA ∧ csA.length = M ∧ csA.take (20 * i) = ivals (pbOut sha1 D I0 i)) ∧ Hid (Below w.heap.size w wr)) (fun ii _ => N - (intOf ii).toNat)
      case atStart => exact ⟨0, by omega, rfl, HO4, fun _ => HI4.out, HA4, HB4⟩
      case round =>
        clear HO4 HI4 HA4 HB4
        obtain ⟨i, hiN, rfl, HO, HI, HA, HB⟩ := hrel
        by_cases hi : i < N
        · have bi : (i : Int) < (N : Int) := by omega
          obtain ⟨X, HX⟩ : ∃ X, Hid (X = pbI sha1 D I0 i) := ⟨_, rfl⟩
          have hIi := HI.out hi
          rw [← HX.out] at hIi
          have HIi := Lib.hid hIi
          obtain ⟨AI', cI', eI, rI⟩ := hIi.rd
          have hAI : AI' = AI ∧ cI' = cI := by injection eI with h1 h2 h3; exact ⟨h1.symm, h3.symm⟩
          rw [hAI.1] at rI
          have RI := Lib.hid rI
          have HI' := HI
          clear hIi eI hAI rI HI
          go_wp2_with (at_builtin; refine wpList_append_rd _ rfl _ _ 22 rfl w.heap.size 5 j0 (.int .u8 0) 1 Tryd.underlying22 hj hy0 hy1 hy2 rfl u17 64 (ivals D) rfl HO.out wr.heap.size AI nI cI (ivals X) rfl RI.out ivals_one (by omega) (by unfold maxLen; omega) HB.out.size ?_; intro v5 w5 ha5; replace ha5 := Lib.hid ha5)
          have ho5 := ha5.out.own
          rw [← ivals_append] at ho5
          have hb5 : Below w.heap.size w w5 := ha5.out.below HB.out HO.out HB.out.size
          have HB5 := Lib.hid hb5
          have HO5 := Lib.hid ha5.out.old
          have HI5 : Hid (InRow' b1 w5 (.slice AI nI cI) nI X) := by
            have h := HI'.out hi
            rw [← HX.out] at h
            refine h.keep (fun k hk h0 => ha5.out.grown.block k ?_ ?_)
            · rcases h.2 with ⟨h1, _⟩ | ⟨_, g, cap, cs, h1, h2, h3, h4, h5, h6⟩
              · omega
              · rw [h1] at hk
                have hk' : g = k := Option.some.inj hk
                rw [← hk']
                exact h5.lt
            · intro e
              have h1 := HDlt.out k e.symm
              have h2 := (HGb.out.2.2 k hk h0).1
              omega
          have HA5 : Hid (∃ csA, Blk w5 ga 5 csA ∧ csA.length = M ∧ csA.take (20 * i) = ivals (pbOut sha1 D I0 i)) := by
            obtain ⟨csA, h1, h2, h3⟩ := HA.out
            exact ⟨csA, (ha5.out.grown.block ga h1.lt (fun e => by have h4 := HDlt.out ga e.symm; have h5 := HGb.out.1; omega)).trans h1, h2, h3⟩
          obtain ⟨g5, cap5, cs5, rfl, hg5, hB5, ht5, hc5, hl5⟩ := own_blk ho5 (by omega)
          have hXl : (D ++ X).length = 64 + nI := by
            have h1 := HI5.out.1
            rw [List.length_append, h1, HD.out, List.length_replicate]
          have r5 : Rd w5 w5.heap.size (some ⟨g5, 0, none⟩) (64 + nI) (ivals (D ++ X)) := blk_rd2 hB5 ht5 hXl
          refine (sha1Sum_any (some ⟨g5, 0, none⟩) (64 + nI) cap5 (D ++ X) w5 r5 (by omega)).mono ?_
          rintro E w6 ⟨g6, c6, rfl, hu6, hg6, r6, hb6⟩
          have R6 : Hid (Rd w6 w6.heap.size (some ⟨g6, 0, none⟩) 20 (ivals (hs2 sha1 (D ++ X) 1))) := by show Rd _ _ _ _ _; rw [hs2_one]; exact r6
          have Hb6 := Lib.hid hb6
          have Hg6 := Lib.hid hg6
          clear ho5 hb5 hB5 ht5 hl5 hXl r5 r6 hb6 hg6 ha5 HO HB HA RI HI'
          go_wp2_with fail
          go_loopw [25, 26] (fun va jj wr => ∃ (j g c : Nat), 1 ≤ j ∧ j ≤ 2 ∧ va = .slice (some ⟨g, 0, none⟩) 20 c ∧ 20 ≤ c ∧ jj = .int .i64 (j : Int) ∧ Hid (w5.heap.size ≤ g) ∧ Hid (Rd wr wr.heap.size (some ⟨g, 0, none⟩) 20 (ivals (hs2 sha1 (D ++ X) j))) ∧ Hid (Below w5.heap.size w5 wr)) (fun _ jj _ => 2 - (intOf jj).toNat)
          case atStart => exact ⟨1, g6, c6, by omega, by omega, rfl, hu6, rfl, Hg6, R6, Hb6⟩
          case round =>
            clear R6 Hb6 Hg6 hu6
            obtain ⟨j, g, c, hj1, hj2, rfl, hc20, rfl, Hg, R, Hb⟩ := hrel
            by_cases hjl : j < 2
            · have bj : (j : Int) < 2 := by omega
              have hj1' : j = 1 := by omega
              go_wp2_with fail
              refine (sha1Sum_any (some ⟨g, 0, none⟩) 20 c (hs2 sha1 (D ++ X) j) wr R.out (by omega)).mono ?_
              rintro E w7 ⟨g7, c7, rfl, hu7, hg7, r7, hb7⟩
              have R7 := Lib.hid r7
              have Hb7 := Lib.hid hb7
              clear r7 hb7
              go_wp2_with fail
              go_roundw
              case rel =>
                refine ⟨j + 1, g7, c7, by omega, by omega, rfl, hu7, by go_num, Nat.le_trans Hb.out.size hg7, ?_, Hb.out.trans (Hb7.out.mono Hb.out.size)⟩
                have h := R7.out
                subst hj1'
                show Rd _ _ _ _ _
                rw [hs2_two]
                exact h
              case measure => simp [intOf]; omega
            · have bj : ¬ (j : Int) < 2 := by omega
              have hj2' : j = 2 := by omega
              subst hj2'
              obtain ⟨a, Ha⟩ : ∃ a, Hid (a = pbA sha1 D I0 i) := ⟨_, rfl⟩
              have ea : hs2 sha1 (D ++ X) 2 = a := by rw [Ha.out, pbA, ← HX.out, hs2_end]
              have Ra : Hid (Rd wr wr.heap.size (some ⟨g, 0, none⟩) 20 (ivals a)) := by have h := R.out; rw [ea] at h; exact h
              have Hal : Hid (a.length = 20) := by show _ = _; rw [Ha.out, pbA, sha1_length]
              obtain ⟨csA, hA, hAl, hAt⟩ := HA5.out
              have HA6 : Hid (Blk wr ga 5 csA) := hA.below Hb.out hA.lt
              have HAl := Lib.hid hAl
              have HAt := Lib.hid hAt
              have HO6 : Hid (wr.ownsRow w.heap.size 5 1 u17 64 (ivals D)) := own_keep HO5.out (fun k hk => Hb.out.block k (HO5.out.lt k hk).2)
              have HI6 : Hid (InRow' b1 wr (.slice AI nI cI) nI X) := HI5.out.keep (fun k hk h0 => Hb.out.block k (by have h1 := (HGb.out.2.2 k hk h0).2; have h2 := hA.lt; omega))
              have HB6 : Hid (Below w.heap.size w wr) := HB5.out.trans (Hb.out.mono HB5.out.size)
              obtain ⟨i20, hi20⟩ : ∃ x : Nat, (i : Int) * 20 = (x : Int) := ⟨i * 20, by omega⟩
              have w20 : IntKind.i64.wrap (i20 : Int) = (i20 : Int) := IntWalk.i64_in _ (by omega)
              have b20 : (i20 : Int) ≤ (M : Int) := by have := HM.out; omega
              have n20 : ¬ M = i20 := by have := HM.out; omega
              have HI20 : Hid (i20 = 20 * i ∧ i20 + 20 ≤ M) := by have := HM.out; exact ⟨by omega, by omega⟩
              have HSRC : Hid (∀ j v, (ivals a)[j]? = some v → wr.cell? ((⟨g, 0, none⟩ : Addr).add j) = some v) := Ra.out.src (by omega)
              have HA5' := HA5
              clear hj1 hj2 hjl ea R hA hAl hAt HO5 HI5 HB5 HA5
              go_wp2_with fail
              go_still_tail 7, (by kernel_rfl)
              obtain ⟨w8, hw8⟩ : ∃ w8, w8 = wr.drewN 1 := ⟨_, rfl⟩
              change wpList _ _ _ _ _ (wr.drewN 1)
              rw [← hw8]
              have HA8 : Hid (Blk w8 ga 5 csA) := by rw [hw8]; exact HA6.out.drewN 1
              have HO8 : Hid (w8.ownsRow w.heap.size 5 1 u17 64 (ivals D)) := by rw [hw8]; exact own_keep HO6.out (fun k _ => rfl)
              have HI8 : Hid (InRow' b1 w8 (.slice AI nI cI) nI X) := by rw [hw8]; exact HI6.out.keep (fun k _ _ => rfl)
              have HB8 : Hid (Below w.heap.size w w8) := by rw [hw8]; exact below_drewN HB6.out 1
              have HS8 : Hid (∀ j v, (ivals a)[j]? = some v → w8.cell? ((⟨g, 0, none⟩ : Addr).add j) = some v) := by rw [hw8]; exact HSRC.out
              have Ra8 : Hid (Rd w8 w8.heap.size (some ⟨g, 0, none⟩) 20 (ivals a)) := by rw [hw8]; exact Ra.out.drewN 1
              have Hgg : Hid (ga < g) := by
                obtain ⟨csA', hA', _, _⟩ := HA5'.out
                have h1 := hA'.lt
                have h2 := Hg.out
                show _ < _
                omega
              clear hw8 HA6 HO6 HI6 HB6 HSRC Ra Hb HA5'
              go_upto_if 86 with (refine wpList_copy_blk rfl (.tmp 79) (.tmp 81) 22 22 rfl 5 Tryd.underlying22 info5c _ _ (M - i20) (M - i20) 20 c rfl rfl ga i20 csA 5 HA8.out (ivals a) (by rw [ivals_length, Hal.out]; exact (Nat.min_eq_left (by have := HI20.out; omega)).symm) (fun _ => ⟨rfl, _, rfl, HS8.out⟩) (by rw [ivals_length, Hal.out, HAl.out]; exact HI20.out.2) ivals_one ?_; intro w9 hA9 hg9; replace hA9 := Lib.hid hA9; replace hg9 := Lib.hid hg9)
              have HA9 : Hid (∃ csA, Blk w9 ga 5 csA ∧ csA.length = M ∧ csA.take (20 * (i + 1)) = ivals (pbOut sha1 D I0 (i + 1))) := by
                refine ⟨_, hA9.out, ?_, ?_⟩
                · rw [length_splice _ _ _ (by rw [ivals_length, Hal.out, HAl.out]; exact HI20.out.2), HAl.out]
                · rw [splice, pbOut, ivals_append, ← Ha.out, ← HAt.out, ← HI20.out.1, ← List.append_assoc]
                  exact List.take_left' (by rw [List.length_append, List.length_take, ivals_length, Hal.out, HAl.out]; have := HI20.out; omega)
              have hDA : ∀ k, u17.ownBlock = some k → w9.heap[k]? = w8.heap[k]? := fun k hk => hg9.out.block k (HO8.out.lt k hk).2 (fun e => by have h1 := HDlt.out k hk; have h2 := HGb.out.1; have h3 := Option.some.inj e; omega)
              have HO9 : Hid (w9.ownsRow w.heap.size 5 1 u17 64 (ivals D)) := own_keep HO8.out hDA
              have HI9 : Hid (InRow' b1 w9 (.slice AI nI cI) nI X) := HI8.out.keep (fun k hk h0 => hg9.out.block k (by have h1 := (HGb.out.2.2 k hk h0).2; have h2 := HA8.out.lt; omega) (fun e => by have h1 := (HGb.out.2.2 k hk h0).2; have h3 := Option.some.inj e; omega))
              have HB9 : Hid (Below w.heap.size w w9) := HB8.out.trans (below_of_grown hg9.out (by have := HGb.out; omega) HB8.out.size)
              have Ra9 : Hid (Rd w9 w9.heap.size (some ⟨g, 0, none⟩) 20 (ivals a)) := Ra8.out.grown_ hg9.out Hgg.out
              clear HA8 HO8 HI8 HB8 HS8 Ra8 hA9 hg9 hDA HAl HAt w20 b20 n20 HI20 hi20
              have wN1 : IntKind.i64.wrap ((N : Int) - 1) = (N : Int) - 1 := IntWalk.i64_in _ (by omega)
              by_cases hl : i + 1 = N
              · have b86 : ¬ (i : Int) < (N : Int) - 1 := by omega
                go_wp2_with fail
                go_roundw
                case rel => exact ⟨i + 1, by omega, by go_num, HO9, fun h => absurd h (by omega), HA9, HB9⟩
                case measure => simp [intOf]; omega
              · have b86 : decide ((i : Int) < (N : Int) - 1) = true := by simp; omega
                rw [b86]
                clear b86
                obtain ⟨b9, hb9⟩ : ∃ b9, w9.heap.size = b9 := ⟨_, rfl⟩
                have Hb9 := Lib.hid hb9
                clear hb9
                go_wp2_with fail
                go_loopw [27] (fun v wr => ∃ k : Nat, Hid (k ≤ 4) ∧ (∃ A c, v = .slice A (20 * k) c) ∧ Hid (wr.ownsRow b9 5 1 v (20 * k) (ivals (List.replicate k a).flatten)) ∧ Hid (Below b9 w9 wr)) (fun v _ => 80 - sliceLen v)
                case atStart => exact ⟨0, by show _ ≤ _; omega, ⟨none, 0, rfl⟩, World.ownsRow_nil _ _ _ _, Below.refl _ _⟩
                case round =>
                  obtain ⟨k, hk4, ⟨A', c', rfl⟩, HOB, HBB⟩ := hrel
                  obtain ⟨m, hm⟩ : ∃ m, 20 * k = m := ⟨_, rfl⟩
                  rw [hm] at HOB ⊢
                  have Hm := Lib.hid hm
                  have hm80 : m ≤ 80 := by have := hk4.out; omega
                  have Rak : Hid (Rd wr w9.heap.size (some ⟨g, 0, none⟩) 20 (ivals a)) := Ra9.out.below (by rw [Hb9.out]; exact HBB.out)
                  clear hm
                  by_cases hkl : k < 4
                  · have b64 : (m : Int) < 64 := by have := Hm.out; omega
                    go_wp2_with (at_builtin; refine wpList_append_rd _ rfl _ _ 22 rfl b9 5 j0 (.int .u8 0) 1 Tryd.underlying22 hj hy0 hy1 hy2 rfl _ m (ivals (List.replicate k a).flatten) rfl HOB.out w9.heap.size _ 20 c (ivals a) rfl Rak.out ivals_one (by omega) (by unfold maxLen; omega) (by have h1 := HBB.out.size; have h2 := Hb9.out; omega) ?_; intro v2 w10 ha2; replace ha2 := Lib.hid ha2)
                    go_roundw
                    case rel =>
                      have h := ha2.out.own
                      obtain ⟨A2, c2, e, _⟩ := own_form h
                      have em : 20 * (k + 1) = m + 20 := by have := Hm.out; omega
                      refine ⟨k + 1, hkl, ⟨A2, c2, by rw [em]; exact e⟩, ?_, ?_⟩
                      · rw [em, show (List.replicate (k + 1) a).flatten = (List.replicate k a).flatten ++ a by rw [List.replicate_succ', List.flatten_append]; simp, ivals_append]
                        exact h
                      · exact ha2.out.below HBB.out HOB.out (by have h1 := HBB.out.size; have h2 := Hb9.out; omega)
                    case measure =>
                      obtain ⟨A2, c2, e, _⟩ := own_form ha2.out.own
                      subst e
                      simp only [sliceLen]
                      have h1 := Hm.out
                      omega
                  · have hk4' : k = 4 := Nat.le_antisymm hk4.out (Nat.le_of_not_lt hkl)
                    have hm8 : m = 80 := by have h1 := Hm.out; rw [hk4'] at h1; omega
                    subst hm8
                    have b64 : ¬ (80 : Int) < 64 := by omega
                    obtain ⟨gB, capB, csB, eB, hgB, hBB, hBt, hBc, hBl⟩ := own_blk HOB.out (by omega)
                    injection eB with eB1 eB2 eB3
                    subst eB1
                    subst eB3
                    have HBt : Hid (csB.take 64 = ivals (fill64 a)) := by
                      show _ = _
                      have h1 : csB.take 64 = (csB.take 80).take 64 := by rw [List.take_take]; rfl
                      rw [h1, hBt, hk4', ivals_take, fill64_four]
                    have HBb := Lib.hid hBB
                    have HgB : Hid (b9 ≤ gB) := hgB
                    have bcB : (64 : Int) ≤ (c' : Int) := by omega
                    clear hBB hBt hgB hk4 HOB hkl eB2 hBl
                    obtain ⟨nb, hnb⟩ : ∃ nb, nI / 64 = nb := ⟨_, rfl⟩
                    have t5 : Int.tdiv (nI : Int) 64 = (nb : Int) := by rw [Int.tdiv_eq_ediv_of_nonneg (by omega)]; omega
                    have wnb : IntKind.i64.wrap (nb : Int) = (nb : Int) := IntWalk.i64_in _ (by omega)
                    have Hnb := Lib.hid hnb
                    obtain ⟨Bl, HBl⟩ : ∃ Bl, Hid (Bl = fill64 a) := ⟨_, rfl⟩
                    rw [← HBl.out] at HBt
                    have HBlok : Hid (ByteL Bl) := by
                      show ByteL _
                      rw [HBl.out, Ha.out, pbA]
                      exact (sha1_ok _).fill64
                    have HXok : Hid (ByteL X) := by
                      show ByteL _
                      rw [HX.out]
                      refine pbI_ok sha1 sha1_ok D I0 ?_ i
                      rw [HI0.out]
                      exact (HBS.out.cyc _).append (HBP.out.cyc _)
                    have HIw : Hid (InRow' b1 wr (.slice AI nI cI) nI (bump Bl X 0)) := HI9.out.keep (fun k hk h0 => HBB.out.block k (by
                      obtain ⟨csA', hA', _, _⟩ := HA9.out
                      have h1 := (HGb.out.2.2 k hk h0).2
                      have h2 := hA'.lt
                      have h3 := Hb9.out
                      omega))
                    clear hnb
                    go_wp2_with fail
                    have HNE : Hid (∀ k, (Value.slice AI nI cI).ownBlock = some k → 0 < nI → k ≠ gB) := by
                      intro k hk h0
                      obtain ⟨csA', hA', _, _⟩ := HA9.out
                      have h1 := (HGb.out.2.2 k hk h0).2
                      have h2 := hA'.lt
                      have h3 := Hb9.out
                      have h4 := HgB.out
                      omega
                    have HCB : Hid (∀ w', wr.grownBy w' ((Value.slice AI nI cI).ownBlock) → 0 < nI → (∀ j', j' < 64 → w'.cell? ⟨gB, 0 + j', none⟩ = some (.int .u8 (Bl.getD j' 0))) ∧ gB < w'.heap.size) := by
                      intro w' hg h0
                      refine ⟨fun j' hj' => ?_, Nat.lt_of_lt_of_le HBb.out.lt hg.size⟩
                      have hBll : Bl.length = 64 := by
                        rw [HBl.out, fill64, List.length_take]
                        simp [Hal.out]
                      rw [World.cell?_of_block (a := ⟨gB, 0 + j', none⟩) (hg.block gB HBb.out.lt (fun e => HNE.out gB e.symm h0 rfl)), Nat.zero_add, HBb.out.cell, take_get HBt.out hj', ivals_get (by omega)]
                    have HEND : Hid (∀ w', wr.grownBy w' ((Value.slice AI nI cI).ownBlock) → (0 < nI ∨ w' = wr) → InRow' b1 w' (.slice AI nI cI) nI (bump Bl X nb) → w'.ownsRow w.heap.size 5 1 u17 64 (ivals D) ∧ InRow' b1 w' (.slice AI nI cI) nI (pbI sha1 D I0 (i + 1)) ∧ (∃ csA, Blk w' ga 5 csA ∧ csA.length = M ∧ csA.take (20 * (i + 1)) = ivals (pbOut sha1 D I0 (i + 1))) ∧ Below w.heap.size w w') := by
                      intro w' hg hz hI
                      have hne : ∀ k, 0 < nI → (Value.slice AI nI cI).ownBlock = some k → b1 ≤ k ∧ k < ga := fun k h0 hk => HGb.out.2.2 k hk h0
                      have hblk : ∀ k, k < wr.heap.size → (0 < nI → (Value.slice AI nI cI).ownBlock = some k → False) → w'.heap[k]? = wr.heap[k]? := by
                        intro k hk hn
                        rcases hz with h | h
                        · exact hg.block k hk (fun e => hn h e.symm)
                        · rw [h]
                      obtain ⟨csA', hA', hAl', hAt'⟩ := HA9.out
                      have hgab : ga < b9 := by have h1 := hA'.lt; have h2 := Hb9.out; omega
                      have hwr : b9 ≤ wr.heap.size := by have h1 := HBB.out.size; have h2 := Hb9.out; omega
                      refine ⟨own_keep HO9.out fun k hk => ?_, ?_, ⟨csA', ?_, hAl', hAt'⟩, ?_⟩
                      · have h1 := HDlt.out k hk
                        have h2 := HGb.out.1
                        exact (hblk k (by omega) (fun h0 e => by have h3 := hne k h0 e; omega)).trans (HBB.out.block k (by omega))
                      · have hl : I0.length = nI := by
                          have h1 := HI9.out.1
                          rw [HX.out, pbI_length] at h1
                          exact h1
                        have e : bump Bl X nb = pbI sha1 D I0 (i + 1) := by rw [pbI, HBl.out, Ha.out, pbA, HX.out, hl, Hnb.out]
                        rw [← e]
                        exact hI
                      · exact ((hblk ga (by omega) (fun h0 e => by have h3 := hne ga h0 e; omega)).trans (HBB.out.block ga hgab)).trans hA'
                      · refine HB9.out.trans ((HBB.out.mono (by have h1 := Hb9.out; have h2 := HB9.out.size; omega)).trans ?_)
                        rcases hz with h | h
                        · rcases hI.2 with ⟨h1, _⟩ | ⟨_, gI, cap, cs, eI, _, _, hgI, _⟩
                          · omega
                          · rw [eI] at hg
                            exact below_of_grown hg (Nat.le_trans HGb.out.2.1 hgI) (by have h1 := Hb9.out; have h2 := HB9.out.size; omega)
                        · rw [h]; exact Below.refl _ _
                    go_loopw [28] (fun jj w' => ∃ j : Nat, j ≤ nb ∧ jj = .int .i64 (j : Int) ∧ Hid (InRow' b1 w' (.slice AI nI cI) nI (bump Bl X j)) ∧ Hid (wr.grownBy w' ((Value.slice AI nI cI).ownBlock)) ∧ Hid (0 < nI ∨ w' = wr)) (fun jj _ => nb - (intOf jj).toNat)
                    case atStart => exact ⟨0, by omega, rfl, HIw, World.grownBy.refl _ _, Or.inr rfl⟩
                    case round =>
                      clear HIw
                      obtain ⟨j, hjn, rfl, HIj, HGj, HZj⟩ := hrel
                      by_cases hj : j < nb
                      · have bj : (j : Int) < (nb : Int) := by omega
                        have h64 : 64 * j + 64 ≤ nI := by have := Hnb.out; omega
                        rcases HIj.out.2 with ⟨h1, _⟩ | ⟨hn0, gI, cap, cs, eI, hcI, hcl, hgI, hBI, hTI⟩
                        · exfalso; omega
                        · injection eI with e1 e2 e3
                          subst e1
                          subst e3
                          have hlI := HIj.out.1
                          obtain ⟨o, ho⟩ : ∃ o : Nat, (j : Int) * 64 = (o : Int) := ⟨j * 64, by omega⟩
                          obtain ⟨j1, hj1⟩ : ∃ j1 : Nat, (j : Int) + 1 = (j1 : Int) := ⟨j + 1, by omega⟩
                          obtain ⟨o2, ho2⟩ : ∃ o2 : Nat, (j1 : Int) * 64 = (o2 : Int) := ⟨j1 * 64, by omega⟩
                          have wo : IntKind.i64.wrap (o : Int) = (o : Int) := IntWalk.i64_in _ (by omega)
                          have wj1 : IntKind.i64.wrap (j1 : Int) = (j1 : Int) := IntWalk.i64_in _ (by omega)
                          have wo2 : IntKind.i64.wrap (o2 : Int) = (o2 : Int) := IntWalk.i64_in _ (by omega)
                          have hoj : o = 64 * j := by omega
                          have HOJ := Lib.hid hoj
                          have e64 : o2 - o = 64 := by omega
                          have boo : (o : Int) ≤ (o2 : Int) := by omega
                          have boc : (o2 : Int) ≤ (cI : Int) := by omega
                          have nco : ¬ cI = o := by omega
                          have HJ1 : Hid (j1 = j + 1) := by show _ = _; omega
                          have ho64 : o + 64 ≤ nI := by omega
                          have HXj : Hid (ByteL (bump Bl X j)) := bump_ok HBlok.out HXok.out j
                          have hself := splice_self hTI hlI ho64
                          have CA := addOne_any gI o (cI - o) gB 0 c' cs (((bump Bl X j).drop o).take 64) Bl _ (by rw [hself]; exact hBI) (by rw [List.length_take, List.length_drop, hlI]; omega) (by omega) (HCB.out _ HGj.out hn0).1 (HCB.out _ HGj.out hn0).2 (fun e => HNE.out gI rfl hn0 e.symm) ((HXj.out.drop _).take _) HBlok.out
                          have HCA := Lib.hid CA
                          have HTI := Lib.hid hTI
                          have HcI : Hid (nI ≤ cI ∧ cI ≤ cs.length) := ⟨hcI, hcl⟩
                          have HgI : Hid (b1 ≤ gI) := hgI
                          clear CA hTI hBI hself hgI hcl hoj
                          go_wp2_with fail
                          refine HCA.out.mono ?_
                          rintro E w11 ⟨rfl, hB11, hg11⟩
                          have HB11 := Lib.hid hB11
                          have Hg11 := Lib.hid hg11
                          clear hB11 hg11
                          go_wp2_with fail
                          go_roundw
                          case rel =>
                            have hz : (addSt (((bump Bl X j).drop o).take 64) Bl 64).2.length = 64 := by rw [addSt_length, List.length_take, List.length_drop, hlI]; omega
                            have hrow := splice_row HTI.out hlI ho64 hz
                            have hbl : bump Bl X (j + 1) = (bump Bl X j).take o ++ ((addSt (((bump Bl X j).drop o).take 64) Bl 64).2 ++ (bump Bl X j).drop (o + 64)) := by rw [bump, ← HOJ.out]
                            refine ⟨j1, by omega, rfl, ?_, grown_trans HGj.out Hg11.out, Or.inl hn0⟩
                            rw [HJ1.out, hbl]
                            refine ⟨?_, Or.inr ⟨hn0, gI, cI, _, rfl, HcI.out.1, ?_, HgI.out, HB11.out, hrow⟩⟩
                            · rw [List.length_append, List.length_append, hz, List.length_take, List.length_drop, hlI]; omega
                            · rw [length_splice _ _ _ (by rw [ivals_length, hz]; have := HcI.out; omega)]; exact HcI.out.2
                          case measure => simp [intOf]; omega
                      · have bj : ¬ (j : Int) < (nb : Int) := by omega
                        have hjn' : j = nb := by omega
                        subst hjn'
                        obtain ⟨hO, hI, hA, hB⟩ := HEND.out _ HGj.out HZj.out HIj.out
                        have HOf := Lib.hid hO
                        have HIf := Lib.hid hI
                        have HAf := Lib.hid hA
                        have HBf := Lib.hid hB
                        clear hO hI hA hB HIj HGj HZj hj hjn HEND
                        go_wp2_with fail
                        go_roundw
                        case rel => exact ⟨i + 1, by omega, by go_num, HOf, fun _ => HIf.out, HAf, HBf⟩
                        case measure => simp [intOf]; omega
        · have hiN' : i = N := by omega
          subst hiN'
          obtain ⟨csA, hA, hAl, hAt⟩ := HA.out
          have HA' := Lib.hid hA
          have HAl := Lib.hid hAl
          have HAt := Lib.hid hAt
          have bi : ¬ (i : Int) < (i : Int) := by omega
          have bsz : (size : Int) ≤ (M : Int) := by have := HM.out; have := HN.out; omega
          clear hA hAl hAt HA HI hi hiN
          go_wp2_with fail
          go_ret
          refine ⟨ga, _, rfl, by have := HM.out; have := HN.out; omega, by have := HGb.out; omega, ?_, HB.out⟩
          have h1 := HM.out
          have h2 := HN.out
          have h3 : (OUT.take size).length = size := by
            rw [HOUT.out, ← HD.out, ← HI0.out, List.length_take, pbOut_length sha1 D I0 20 sha1_length]
            omega
          refine blk_rd2 HA'.out ?_ h3
          rw [← ivals_take, HOUT.out, ← HD.out, ← HI0.out, ← HAt.out, List.take_take, Nat.min_eq_left (by omega)]
end Go.Proofs.YtlnifplomlnoiaaDoor
