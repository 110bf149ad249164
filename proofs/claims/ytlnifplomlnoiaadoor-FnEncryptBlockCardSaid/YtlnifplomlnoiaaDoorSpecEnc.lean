/- spec.Encrypt. -/
import Derived.Test.YtlnifplomlnoiaaDoorSpecRot
import Derived.Test.YtlnifplomlnoiaaDoorSpecBlock
import Derived.Deep.CutRange
import Derived.Deep.RegionWith
namespace Go.Proofs.YtlnifplomlnoiaaDoor
open Go.RowKit

theorem rvals_length (s : S4) : (rvals s).length = 4 := rfl
theorem rvals_get (s : S4) {i : Nat} (hi : i < 4) : (rvals s)[i]? = some (.int .i64 (gets s i)) := by
  obtain ⟨a, b, c, d⟩ := s
  have h : i = 0 ∨ i = 1 ∨ i = 2 ∨ i = 3 := by omega
  rcases h with rfl | rfl | rfl | rfl <;> rfl
theorem rvals_set (s : S4) {i : Nat} (hi : i < 4) (x : Int) : (rvals s).set i (.int .i64 x) = rvals (sets s i x) := by
  obtain ⟨a, b, c, d⟩ := s
  have h : i = 0 ∨ i = 1 ∨ i = 2 ∨ i = 3 := by omega
  rcases h with rfl | rfl | rfl | rfl <;> rfl
theorem rvals_one (s : S4) : ∀ u ∈ rvals s, u.oneCell' = true := by
  obtain ⟨a, b, c, d⟩ := s
  intro u hu
  simp only [rvals, List.mem_cons, List.not_mem_nil, or_false] at hu
  rcases hu with rfl | rfl | rfl | rfl <;> rfl
theorem gets_ok {s : S4} (h : Ok4 s) (i : Nat) : 0 ≤ gets s i ∧ gets s i ≤ 65535 := by
  obtain ⟨a, b, c, d⟩ := s
  rcases i with _ | _ | _ | i
  · exact h.1
  · exact h.2.1
  · exact h.2.2.1
  · exact h.2.2.2
theorem sets_ok {s : S4} (h : Ok4 s) (i : Nat) (x : Int) (hx : 0 ≤ x ∧ x ≤ 65535) : Ok4 (sets s i x) := by
  obtain ⟨a, b, c, d⟩ := s
  rcases i with _ | _ | _ | i
  · exact ⟨hx, h.2⟩
  · exact ⟨h.1, hx, h.2.2⟩
  · exact ⟨h.1, h.2.1, hx, h.2.2.2⟩
  · exact ⟨h.1, h.2.1, h.2.2.1, hx⟩

theorem addAt_range {s : S4} (h : Ok4 s) (i : Nat) {k : Int} (hk : 0 ≤ k ∧ k ≤ 65535) : 0 ≤ addAt s i k ∧ addAt s i k ≤ 262144 := by
  obtain ⟨a, b, c, d⟩ := s
  have ha : 0 ≤ a ∧ a ≤ 65535 := h.1
  have hb : 0 ≤ b ∧ b ≤ 65535 := h.2.1
  have hc : 0 ≤ c ∧ c ≤ 65535 := h.2.2.1
  have hd : 0 ≤ d ∧ d ≤ 65535 := h.2.2.2
  have key : ∀ p q r : Int, (0 ≤ p ∧ p ≤ 65535) → (0 ≤ q ∧ q ≤ 65535) → (0 ≤ r ∧ r ≤ 65535) → 0 ≤ addI p q r k ∧ addI p q r k ≤ 262144 := by
    intro p q r hp hq hr
    have l1 := and64_le hr hq
    have l2 := and64_le (a := 65535 - r) (b := p) (by omega) hp
    unfold addI
    omega
  rcases i with _ | _ | _ | i
  · exact key b c d hb hc hd
  · exact key c d a hc hd ha
  · exact key d a b hd ha hb
  · exact key a b c ha hb hc

theorem own_base {w : World} {B B' : Nat} {e : TypeId} {size : Nat} {v : Value} {n : Nat} {xs : List Value} (h : w.ownsRow B e size v n xs) (hB : B' ≤ B) : w.ownsRow B' e size v n xs := by
  refine ⟨h.1, ?_⟩
  rcases h.2 with h0 | ⟨g, cap, cur, h1, h2, h3⟩
  · exact Or.inl h0
  · exact Or.inr ⟨g, cap, cur, h1, Nat.le_trans hB h2, h3⟩

def AllLe (l : List Nat) : Prop := ∀ i, l.getD i 0 ≤ 255
theorem AllLe.set_ {l : List Nat} (h : AllLe l) (i x : Nat) (hx : x ≤ 255) : AllLe (l.set i x) := by
  intro j
  have hj := h j
  rw [List.getD_eq_getElem?_getD] at hj ⊢
  rw [List.getElem?_set]
  split
  · split <;> simp <;> omega
  · exact hj
theorem allLe_fill1 (T : Nat → Nat) (hT : ∀ x, T x ≤ 255) (t : Nat) (l : List Nat) (h : AllLe l) : ∀ k, AllLe (fill1 T t l k)
  | 0 => h
  | k + 1 => (allLe_fill1 T hT t l h k).set_ _ _ (hT _)
theorem allLe_fill3 (T : Nat → Nat) (hT : ∀ x, T x ≤ 255) (t : Nat) (l : List Nat) (h : AllLe l) : ∀ k, AllLe (fill3 T t l k)
  | 0 => h
  | k + 1 => (allLe_fill3 T hT t l h k).set_ _ _ (hT _)
theorem allLe_padded (key : List UInt8) : AllLe (padded0 (nums key)) := by
  intro j
  rw [List.getD_eq_getElem?_getD]
  cases h : (padded0 (nums key))[j]? with
  | none => simp
  | some x =>
    have hm := List.mem_of_getElem? h
    simp only [padded0, List.mem_append, List.mem_replicate] at hm
    rcases hm with hm | ⟨_, rfl⟩
    · exact nums_le x hm
    · simp
theorem Kof_ok (T : Nat → Nat) (hT : ∀ x, T x ≤ 255) (key : List UInt8) (t1 : Nat) (j : Nat) : 0 ≤ Kof T key t1 j ∧ Kof T key t1 j ≤ 65535 := by
  have h : AllLe (expandedBytes T (nums key) t1) := allLe_fill3 T hT _ _ ((allLe_fill1 T hT _ _ (allLe_padded key) _).set_ _ _ (hT _)) _
  have e : (expanded T (nums key) t1).getD j 0 ≤ 65535 := by
    rw [List.getD_eq_getElem?_getD]
    cases hx : (expanded T (nums key) t1)[j]? with
    | none => simp
    | some x =>
      have hm := List.mem_of_getElem? hx
      simp only [expanded, pairs, List.mem_map] at hm
      obtain ⟨i, _, rfl⟩ := hm
      have h1 := h (2 * i)
      have h2 := h (2 * i + 1)
      simp only [Option.getD_some]
      omega
  unfold Kof
  omega

set_option maxRecDepth 1000000 in
set_option maxHeartbeats 8000000 in
theorem specEncrypt_any (A A2 : Option Addr) (n c c2 t1 : Nat) (key blk : List UInt8) (w : World) (hr : Rd w w.heap.size A n (bvals key)) (hr2 : Rd w w.heap.size A2 8 (bvals blk)) (hn0 : 1 ≤ n) (hn : n ≤ 128) (ht0 : 1 ≤ t1) (ht1 : t1 ≤ 1024) :
    Calls Tryd.prog 16 #[.slice A n c, .int .i64 (t1 : Int), .slice A2 8 c2] w fun E w' => ∃ v, E = .returned v ∧ w'.ownsRow w.heap.size 5 1 v 8 (ivals (block (encS (Kof piT key t1) (words (ints blk))))) ∧ Below w.heap.size w w' := by
  obtain ⟨i0, hi, hz0, hz1, hz2⟩ := info_parts info55
  obtain ⟨j0, hj, hy0, hy1, hy2⟩ := info_parts info57
  obtain ⟨X, hX⟩ : ∃ X, X = nvals .i64 (expanded piT (nums key) t1) := ⟨_, rfl⟩
  have hXl : X.length = 64 := by rw [hX, nvals_length, expanded_length]
  have hX1 : ∀ u ∈ X, u.oneCell' = true := by rw [hX]; exact nvals_one
  obtain ⟨s0, hs0⟩ : ∃ s0, s0 = words (ints blk) := ⟨_, rfl⟩
  obtain ⟨Y, hY⟩ : ∃ Y, Y = rvals s0 := ⟨_, rfl⟩
  have hYl : Y.length = 4 := by rw [hY]; rfl
  have hY1 : ∀ u ∈ Y, u.oneCell' = true := by rw [hY]; exact rvals_one s0
  have h8 : blk.length = 8 := by rw [← bvals_length]; exact hr2.1
  have hOk0 : Ok4 s0 := by rw [hs0]; exact ok_words ints_le (by rw [ints_length]; exact h8)
  obtain ⟨K, hK⟩ : ∃ K, K = Kof piT key t1 := ⟨_, rfl⟩
  have hKo : ∀ j, 0 ≤ K j ∧ K j ≤ 65535 := by rw [hK]; exact Kof_ok piT piT_le key t1
  have hXK : ∀ j, j < 64 → X[j]? = some (.int .i64 (K j)) := fun j hj => by
    rw [hX, nvals_getD (by rw [expanded_length]; exact hj), hK]
    rfl
  have call1 := specExpanded_any A n c t1 (nums key) w (by rw [nvals_nums]; exact hr) nums_le hn0 hn ht0 ht1
  rw [← hX] at call1
  rw [← hK, ← hs0]
  have C1 := Lib.hid call1
  have C2 : Hid (∀ w1, Below w.heap.size w w1 → Calls Tryd.prog 33 #[.slice A2 8 c2] w1 fun E w' => E = .returned (.agg Y.toArray) ∧ Below w1.heap.size w1 w') := by
    intro w1 h
    rw [hY, hs0]
    exact wordsOf_any A2 c2 blk w1 ((hr2.below h).more h.size)
  have HXK := Lib.hid hXK
  have HKo := Lib.hid hKo
  have HOk := Lib.hid hOk0
  have HYY := Lib.hid hY
  clear hX hs0 hY h8 hOk0 hK hKo hXK call1 hr hr2
  go_enter Tryd.func16, Tryd.ntmps16
  go_wp2_with fail
  refine C1.out.mono ?_
  rintro E w1 ⟨rfl, hb1⟩
  go_wp2_with fail
  refine (C2.out w1 hb1).mono ?_
  rintro E w2 ⟨rfl, hb2⟩
  go_wp2_with (first | (refine wpList_alloc_arr rfl 55 rfl _ i0 hi hz0 ?_; intro w3 Kb HKb hKb hb3 hs3) | (refine wpList_alloc_arr rfl 57 rfl _ j0 hj hy0 ?_; intro w4 Rb HRb hRb hb4 hs4) | (refine wpList_store_blk rfl 55 (.tmp 7) (.tmp 14) rfl Kb 55 _ X rfl rfl (hKb.below hb4 hKb.lt) (by rw [hXl]; rfl) (by rw [hi]; simp [hz1, hXl]) hX1 ?_; intro w5 hK5 hg5 hs5; replace hK5 := Lib.hid hK5) | (refine wpList_store_blk rfl 57 (.tmp 8) (.tmp 16) rfl Rb 57 _ Y rfl rfl (hRb.grown hg5 (by have := HRb.out; have := hKb.lt; simp; omega)) (by rw [hYl]; rfl) (by rw [hj]; simp [hy1, hYl]) hY1 ?_; intro w6 hR6 hg6 hs6; replace hR6 := Lib.hid hR6))
  have hord : Hid (Kb < Rb ∧ w.heap.size ≤ Kb) := by
    have a1 := hKb.lt
    have a2 := HKb.out
    have a3 := HRb.out
    have a4 := hb1.size
    have a5 := hb2.size
    exact ⟨by omega, by omega⟩
  have HB : Hid (Below w.heap.size w w6) := by
    have h1 := hb1.trans (hb2.mono hb1.size)
    have h2 := h1.trans (hb3.mono h1.size)
    have h3 := h2.trans (hb4.mono h2.size)
    have h4 := h3.trans (below_of_grown hg5 hord.out.2 h3.size)
    exact h4.trans (below_of_grown hg6 (by have := hord.out; omega) h4.size)
  have HK6 : Hid (Blk w6 Kb 55 X) := hK5.out.grown hg6 (by have := hord.out; simp; omega)
  have h65 := i64_and65535
  clear hb1 hb2 HKb hKb hb3 hs3 HRb hRb hb4 hs4 hg5 hs5 hg6 hs6 hK5
  go_loopw [17] (fun jj wr => ∃ (j : Nat) (s : S4), j ≤ 64 ∧ jj = .int .i64 (j : Int) ∧ Hid (s = runE K s0 j) ∧ Hid (Ok4 s) ∧ Hid (Blk wr Kb 55 X) ∧ Hid (Blk wr Rb 57 (rvals s)) ∧ Hid (Below w.heap.size w wr)) (fun jj _ => 64 - (intOf jj).toNat)
  case atStart => exact ⟨0, s0, by omega, rfl, rfl, HOk, HK6, by rw [← HYY.out]; exact hR6, HB⟩
  case round =>
    clear HB HK6 hR6 HOk
    obtain ⟨j, s, hj64, rfl, HS, HOk, HKw, HRw, HBw⟩ := hrel
    by_cases hlt : j < 64
    · obtain ⟨i, hi4, htm, hij⟩ : ∃ i : Nat, i < 4 ∧ Int.tmod (j : Int) 4 = (i : Int) ∧ Hid (j % 4 = i) := ⟨j % 4, by omega, by rw [Int.tmod_eq_emod_of_nonneg (by omega)]; omega, rfl⟩
      have wi : IntKind.i64.wrap (i : Int) = (i : Int) := IntWalk.i64_in _ (by omega)
      have bj : (j : Int) < 64 := by omega
      have bi : (i : Int) < 4 := by omega
      obtain ⟨x, HX⟩ : ∃ x, Hid (x = gets s i) := ⟨_, rfl⟩
      obtain ⟨k, Hk⟩ : ∃ k, Hid (k = K j) := ⟨_, rfl⟩
      obtain ⟨y, HY⟩ : ∃ y, Hid (y = addAt s i k) := ⟨_, rfl⟩
      have rx : 0 ≤ x ∧ x ≤ 65535 := by rw [HX.out]; exact gets_ok HOk.out i
      have ry : 0 ≤ y ∧ y ≤ 262144 := by rw [HY.out, Hk.out]; exact addAt_range HOk.out i (HKo.out j)
      obtain ⟨z, hz⟩ : ∃ z, x + y = z := ⟨_, rfl⟩
      have wz : IntKind.i64.wrap z = z := IntWalk.i64_in _ (by omega)
      have MX : Hid (∀ wx, Calls Tryd.prog 35 #[.agg (rvals s).toArray, .int .i64 (i : Int), .int .i64 k] wx fun E w' => E = .returned (.int .i64 y) ∧ Below wx.heap.size wx w') := by
        intro wx
        rw [HY.out, Hk.out]
        exact mixed_any s HOk.out i hi4 (K j) (HKo.out j) wx
      obtain ⟨a, b, c, d⟩ := s
      have cK : wr.cell? ⟨Kb, j, none⟩ = some (.int .i64 k) := by rw [HKw.out.cell, HXK.out j hlt, Hk.out]
      have c0 : wr.cell? ⟨Rb, 0, none⟩ = some (.int .i64 a) := by rw [HRw.out.cell]; rfl
      have c1 : wr.cell? ⟨Rb, 1, none⟩ = some (.int .i64 b) := by rw [HRw.out.cell]; rfl
      have c2' : wr.cell? ⟨Rb, 2, none⟩ = some (.int .i64 c) := by rw [HRw.out.cell]; rfl
      have c3 : wr.cell? ⟨Rb, 3, none⟩ = some (.int .i64 d) := by rw [HRw.out.cell]; rfl
      have ci : wr.cell? ⟨Rb, i, none⟩ = some (.int .i64 x) := by rw [HRw.out.cell, rvals_get _ hi4, HX.out]
      have fi : wr.frozen? ⟨Rb, i, none⟩ = false := HRw.out.frozen _
      have hRlt : Rb < wr.heap.size := HRw.out.lt
      go_upto_region 6 with fail
      go_cut [17] from 17 to 77 (fun s17 wx => s17 = .int .i64 (j : Int) ∧ Hid (Blk wx Kb 55 X) ∧ Hid (Blk wx Rb 57 (rvals (half1 K i j (a, b, c, d)))) ∧ Hid (Below w.heap.size w wx))
      case first =>
        go_region_with (go_at_call 35; refine (MX.out _).mono ?_; rintro E w7 ⟨rfl, hb7⟩; have BB : Hid (Below wr.heap.size wr w7) := ((Below.refl _ wr).drew).trans hb7; have ci7 : w7.cell? ⟨Rb, i, none⟩ = some (.int .i64 x) := (BB.out.cell (p := ⟨Rb, i, none⟩) hRlt).trans ci; have fi7 : w7.frozen? ⟨Rb, i, none⟩ = false := (BB.out.frozen (p := ⟨Rb, i, none⟩) hRlt).trans fi)
        all_goals
          go_wp2_with fail
          go_meet
          refine ⟨rfl, ?_, ?_, ?_⟩
          · exact (HKw.out.below BB.out HKw.out.lt).far (p := ⟨Rb, i, none⟩) (by have := hord.out; simp; omega) _
          · show Blk _ _ _ _
            rw [half1, ← HX.out, ← Hk.out, ← HY.out, hz, ← rvals_set _ hi4]
            exact (HRw.out.below BB.out HRw.out.lt).set_ _ _
          · exact (HBw.out.trans (BB.out.mono HBw.out.size)).setCell (p := ⟨Rb, i, none⟩) (by have := hord.out; simp; omega) _
      case rest =>
        obtain ⟨rfl, HKc, HRc, HBc⟩ := hcut
        clear cK c0 c1 c2' c3 ci fi hRlt hz wz MX HX HY Hk rx ry HKw HRw HBw
        obtain ⟨s1, Hs1⟩ : ∃ s1, Hid (s1 = half1 K i j (a, b, c, d)) := ⟨_, rfl⟩
        have HO1 : Hid (Ok4 s1) := by
          show Ok4 _
          rw [Hs1.out, half1]
          exact sets_ok HOk.out _ _ (by omega)
        rw [← Hs1.out] at HRc
        obtain ⟨x1, HX⟩ : ∃ x1, Hid (x1 = gets s1 i) := ⟨_, rfl⟩
        have rx : 0 ≤ x1 ∧ x1 ≤ 65535 := by rw [HX.out]; exact gets_ok HO1.out i
        obtain ⟨e, f, u, t, r, hsh, he5, hef, hf16, hu, hu0, hu1, ht, hr, hfin⟩ := rot_facts i hi4 x1 rx.1 rx.2
        have HF := Lib.hid hfin
        have wu : IntKind.i64.wrap u = u := IntWalk.i64_in _ (by omega)
        have wf : IntKind.i64.wrap (f : Int) = (f : Int) := IntWalk.i64_in _ (by omega)
        have hm1 : min e 64 = e := by omega
        have hm2 : min f 64 = f := by omega
        have MS : Hid (∀ wx, Calls Tryd.prog 34 #[.int .i64 (i : Int)] wx fun E w' => E = .returned (.int .i64 (e : Int)) ∧ Below wx.heap.size wx w') := by
          intro wx
          rw [← hsh]
          exact shift_any i hi4 wx
        have ci : wc.cell? ⟨Rb, i, none⟩ = some (.int .i64 x1) := by rw [HRc.out.cell, rvals_get _ hi4, HX.out]
        have fi : wc.frozen? ⟨Rb, i, none⟩ = false := HRc.out.frozen _
        have hRlt : Rb < wc.heap.size := HRc.out.lt
        clear hsh hfin
        go_upto_region 7 with fail
        go_cut [17] from 17 to 77 (fun s17 wx => s17 = .int .i64 (j : Int) ∧ Hid (Blk wx Kb 55 X) ∧ Hid (Blk wx Rb 57 (rvals (half2 i s1))) ∧ Hid (Below w.heap.size w wx))
        case first =>
          go_region_with (go_at_call 34; refine (MS.out _).mono ?_; rintro E w7 ⟨rfl, hb7⟩; have BB : Hid (Below wc.heap.size wc w7) := (by first | exact BB.out.trans (hb7.mono BB.out.size) | exact ((Below.refl _ wc).drew).trans hb7); have ci7 : w7.cell? ⟨Rb, i, none⟩ = some (.int .i64 x1) := (BB.out.cell (p := ⟨Rb, i, none⟩) hRlt).trans ci; have fi7 : w7.frozen? ⟨Rb, i, none⟩ = false := (BB.out.frozen (p := ⟨Rb, i, none⟩) hRlt).trans fi)
          all_goals
            go_wp2_with fail
            go_meet
            refine ⟨rfl, ?_, ?_, ?_⟩
            · exact (HKc.out.below BB.out HKc.out.lt).far (p := ⟨Rb, i, none⟩) (by have := hord.out; simp; omega) _
            · show Blk _ _ _ _
              rw [half2, ← HX.out, ← HF.out, ← rvals_set _ hi4]
              exact (HRc.out.below BB.out HRc.out.lt).set_ _ _
            · exact (HBc.out.trans (BB.out.mono HBc.out.size)).setCell (p := ⟨Rb, i, none⟩) (by have := hord.out; simp; omega) _
        case rest =>
          obtain ⟨rfl, HKd, HRd, HBd⟩ := hcut
          obtain ⟨s2, Hs2⟩ : ∃ s2, Hid (s2 = half2 i s1) := ⟨_, rfl⟩
          have HO2 : Hid (Ok4 s2) := by
            show Ok4 _
            rw [Hs2.out, half2, ← HX.out, ← HF.out]
            exact sets_ok HO1.out _ _ (by omega)
          clear ci fi hRlt hu ht hr wu wf hm1 hm2 MS HX HF rx hef
          rw [← Hs2.out] at HRd
          by_cases h19 : j = 19 ∨ j = 43
          · have hst : Hid (stepE K j (runE K s0 j) = mashes K s2 4) := by
              show _ = _
              rw [← HS.out, stepE_mash _ _ _ h19, hij.out, ← Hs1.out, ← Hs2.out, mashes_eq]
            have htest : ((j : Int) == 19) = true ∨ (((j : Int) == 19) = false ∧ ((j : Int) == 43) = true) := by
              rcases h19 with rfl | rfl
              · exact Or.inl rfl
              · exact Or.inr ⟨rfl, rfl⟩
            have h63 := i64_and63
            rcases htest with d1 | ⟨d1, d2⟩
            all_goals
              go_wp2_with fail
              go_loopw [58] (fun mm wr => ∃ m : Nat, m ≤ 4 ∧ mm = .int .i64 (m : Int) ∧ Hid (Ok4 (mashes K s2 m)) ∧ Hid (Blk wr Kb 55 X) ∧ Hid (Blk wr Rb 57 (rvals (mashes K s2 m))) ∧ Hid (Below w.heap.size w wr)) (fun mm _ => 4 - (intOf mm).toNat)
              case atStart => exact ⟨0, by omega, rfl, HO2, HKd, HRd, HBd⟩
              case round =>
                obtain ⟨m, hm4, rfl, HOm, HKm, HRm, HBm⟩ := hrel
                by_cases hmlt : m < 4
                · obtain ⟨p, hp⟩ : ∃ p : Nat, (m : Int) + 3 = (p : Int) := ⟨m + 3, by omega⟩
                  have wp3 : IntKind.i64.wrap (p : Int) = (p : Int) := IntWalk.i64_in _ (by omega)
                  obtain ⟨q, hq, hq4, HQ⟩ : ∃ q : Nat, Int.tmod (p : Int) 4 = (q : Int) ∧ q < 4 ∧ Hid (q = (m + 3) % 4) := ⟨(m + 3) % 4, by rw [Int.tmod_eq_emod_of_nonneg (by omega)]; omega, by omega, rfl⟩
                  obtain ⟨x, HX⟩ : ∃ x, Hid (x = gets (mashes K s2 m) m) := ⟨_, rfl⟩
                  obtain ⟨y, HY⟩ : ∃ y, Hid (y = gets (mashes K s2 m) q) := ⟨_, rfl⟩
                  have rx : 0 ≤ x ∧ x ≤ 65535 := by rw [HX.out]; exact gets_ok HOm.out _
                  have ry : 0 ≤ y ∧ y ≤ 65535 := by rw [HY.out]; exact gets_ok HOm.out _
                  obtain ⟨kk, hkk, hk64, HKK⟩ : ∃ kk : Nat, y % 64 = (kk : Int) ∧ kk < 64 ∧ Hid (kk = (y % 64).toNat) := ⟨(y % 64).toNat, by omega, by omega, rfl⟩
                  obtain ⟨k, Hk⟩ : ∃ k, Hid (k = K kk) := ⟨_, rfl⟩
                  have rk : 0 ≤ k ∧ k ≤ 65535 := by rw [Hk.out]; exact HKo.out _
                  obtain ⟨z, hz⟩ : ∃ z, x + k = z := ⟨_, rfl⟩
                  have wz : IntKind.i64.wrap z = z := IntWalk.i64_in _ (by omega)
                  have wq : IntKind.i64.wrap (q : Int) = (q : Int) := IntWalk.i64_in _ (by omega)
                  have bm : (m : Int) < 4 := by omega
                  have bq : (q : Int) < 4 := by omega
                  have bk : (kk : Int) < 64 := by omega
                  have cm : wr.cell? ⟨Rb, m, none⟩ = some (.int .i64 x) := by rw [HRm.out.cell, rvals_get _ hmlt, HX.out]
                  have cq : wr.cell? ⟨Rb, q, none⟩ = some (.int .i64 y) := by rw [HRm.out.cell, rvals_get _ hq4, HY.out]
                  have ck : wr.cell? ⟨Kb, kk, none⟩ = some (.int .i64 k) := by rw [HKm.out.cell, HXK.out kk hk64, Hk.out]
                  have fm : wr.frozen? ⟨Rb, m, none⟩ = false := HRm.out.frozen _
                  go_wp2_with fail
                  go_still_tail 15, (by kernel_rfl)
                  go_wp2_with fail
                  go_roundw
                  case rel =>
                    have hnew : Hid (mashes K s2 (m + 1) = sets (mashes K s2 m) m (z % 65536)) := by
                      show mash1 K m (mashes K s2 m) = _
                      rw [mash1, ← HQ.out, ← HY.out, ← HX.out, ← HKK.out, ← Hk.out, hz]
                    refine ⟨m + 1, by omega, by go_num, ?_, ?_, ?_, ?_⟩
                    · show Ok4 _
                      rw [hnew.out]
                      exact sets_ok HOm.out _ _ (by omega)
                    · exact (HKm.out.drewN 1).far (p := ⟨Rb, m, none⟩) (by have := hord.out; simp; omega) _
                    · show Blk _ _ _ _
                      rw [hnew.out, ← rvals_set _ hmlt]
                      exact (HRm.out.drewN 1).set_ _ _
                    · exact (below_drewN HBm.out 1).setCell (p := ⟨Rb, m, none⟩) (by have := hord.out; simp; omega) _
                  case measure => simp [intOf]; omega
                · have hm0 : ¬ (m : Int) < 4 := by omega
                  have hm4' : m = 4 := by omega
                  rw [hm4', ← hst.out] at HOm HRm
                  clear hmlt hm4 hm4'
                  go_wp2_with fail
                  go_roundw
                  case rel => exact ⟨j + 1, _, by omega, by go_num, rfl, HOm, HKm, HRm, HBm⟩
                  case measure => simp [intOf]; omega
          · have d1 : ((j : Int) == 19) = false := by simp; omega
            have d2 : ((j : Int) == 43) = false := by simp; omega
            have hst : Hid (stepE K j (runE K s0 j) = s2) := by
              show _ = _
              rw [← HS.out, stepE_plain _ _ _ h19, hij.out, ← Hs1.out, ← Hs2.out]
            go_wp2_with fail
            go_roundw
            case rel => exact ⟨j + 1, s2, by omega, by go_num, hst.out.symm, HO2, HKd, HRd, HBd⟩
            case measure => simp [intOf]; omega
    · have hj0 : ¬ (j : Int) < 64 := by omega
      have hj4 : j = 64 := by omega
      have hfin : s = encS K s0 := by rw [HS.out, hj4, runE_all]
      have HFin := Lib.hid hfin
      obtain ⟨a, b, c, d⟩ := s
      have c0 : wr.cell? ⟨Rb, 0, none⟩ = some (.int .i64 a) := by rw [HRw.out.cell]; rfl
      have c1 : wr.cell? ⟨Rb, 1, none⟩ = some (.int .i64 b) := by rw [HRw.out.cell]; rfl
      have c2' : wr.cell? ⟨Rb, 2, none⟩ = some (.int .i64 c) := by rw [HRw.out.cell]; rfl
      have c3 : wr.cell? ⟨Rb, 3, none⟩ = some (.int .i64 d) := by rw [HRw.out.cell]; rfl
      clear hlt hj64 hj4 hfin
      go_wp2_with fail
      refine (blockOf_any a b c d wr HOk.out).mono ?_
      rintro E w9 ⟨v, rfl, ho, hb9⟩
      replace ho := Lib.hid ho
      go_wp2_with fail
      go_ret
      refine ⟨v, rfl, ?_, HBw.out.trans (hb9.mono HBw.out.size)⟩
      rw [← HFin.out]
      exact own_base ho.out HBw.out.size
end Go.Proofs.YtlnifplomlnoiaaDoor
