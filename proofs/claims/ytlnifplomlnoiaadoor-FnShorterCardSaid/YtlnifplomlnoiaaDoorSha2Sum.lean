/- The library's Digest.checkSum, Sum, Sum256: SHA-256 of a text as a function sha2 on lists, whatever the package's table holds. Texts of at most 1024 bytes. -/
import Derived.Test.YtlnifplomlnoiaaDoorSha2Write
import Derived.ArgAppend
namespace Go.Proofs.YtlnifplomlnoiaaDoor
open Go.RowKit

def sets4 (l : List Int) (o : Nat) (v : Int) : List Int := (((l.set o (v / 16777216 % 256)).set (o + 1) (v / 65536 % 256)).set (o + 2) (v / 256 % 256)).set (o + 3) (v % 256)
def sets8 (l : List Int) (o : Nat) (v : Int) : List Int :=
  (((((((l.set o (v / 72057594037927936 % 256)).set (o + 1) (v / 281474976710656 % 256)).set (o + 2) (v / 1099511627776 % 256)).set (o + 3) (v / 4294967296 % 256)).set (o + 4) (v / 16777216 % 256)).set (o + 5) (v / 65536 % 256)).set (o + 6) (v / 256 % 256)).set (o + 7) (v % 256)
theorem ivals_set (l : List Int) (i : Nat) (x : Int) : (ivals l).set i (.int .u8 x) = ivals (l.set i x) := by simp [ivals, List.map_set]
theorem set4_ivals (l : List Int) (o : Nat) (v : Int) : set4 (ivals l) o v = ivals (sets4 l o v) := by simp only [set4, sets4, ivals_set]
theorem set8_ivals (l : List Int) (o : Nat) (v : Int) : set8 (ivals l) o v = ivals (sets8 l o v) := by simp only [set8, sets8, ivals_set]
theorem sets4_length (l : List Int) (o : Nat) (v : Int) : (sets4 l o v).length = l.length := by simp [sets4]
theorem sets8_length (l : List Int) (o : Nat) (v : Int) : (sets8 l o v).length = l.length := by simp [sets8]

/-- How far the length stands behind the text, for a rest of q bytes. -/
def padT (q : Nat) : Nat := if q < 56 then 56 - q else 120 - q
def pad2 (q : Nat) (len : Int) : List Int := (sets8 ((List.replicate 72 0).set 0 128) (padT q) len).take (padT q + 8)
/-- The last blocks. -/
def fin2 (K : Nat → Int) (r : Nat) (s : S8) (x : List Int) (q : Nat) (len : Int) : S8 :=
  if q = 0 then (kBlocks r K (pad2 q len) s ((padT q + 8) / 64)).2
  else (kBlocks r K ((pad2 q len).drop (64 - q)) (kBlocks r K (lay x q ((pad2 q len).take (64 - q))) s 1).2 ((padT q + 8 - (64 - q)) / 64)).2
def out2 : S8 → List Int
  | (a, b, c, d, e, f, g, h) => sets4 (sets4 (sets4 (sets4 (sets4 (sets4 (sets4 (sets4 (List.replicate 32 0) 0 a) 4 b) 8 c) 12 d) 16 e) 20 f) 24 g) 28 h
theorem out2_length (s : S8) : (out2 s).length = 32 := by
  obtain ⟨a, b, c, d, e, f, g, h⟩ := s
  simp only [out2, sets4_length, List.length_replicate]
theorem info97 : (Tryd.prog.info? 97).map (fun i => (i.zero, i.size, i.bytes)) = some (some (.agg (ivals (List.replicate 32 0)).toArray), 32, 32) := by kernel_rfl
theorem info189 : (Tryd.prog.info? 189).map (fun i => (i.zero, i.size, i.bytes)) = some (some (.agg (ivals (List.replicate 72 0)).toArray), 72, 72) := by kernel_rfl

theorem grown_below2 {w w1 w2 : World} {D G : Nat} (h : w.grownBy w1 (some D)) (h' : w1.grownBy w2 (some G)) (hG : w.heap.size ≤ G) : w.grownBy w2 (some D) :=
  ⟨h'.os.trans h.os, h'.tape.trans h.tape, h'.output.trans h.output, Nat.le_trans h.size h'.size, fun i hi hne => (h'.block i (Nat.lt_of_lt_of_le hi h.size) (fun e => by have := Option.some.inj e; omega)).trans (h.block i hi hne)⟩

theorem padT_le (q : Nat) (h : q < 64) : 1 ≤ padT q ∧ padT q ≤ 64 ∧ (padT q + 8 + q = 64 ∨ padT q + 8 + q = 128) := by
  rw [padT]
  by_cases h' : q < 56
  · rw [if_pos h']; omega
  · rw [if_neg h']; omega
theorem pad2_length (q : Nat) (len : Int) (h : q < 64) : (pad2 q len).length = padT q + 8 := by
  have := padT_le q h
  rw [pad2, List.length_take, sets8_length, List.length_set, List.length_replicate]
  omega

theorem finWrite_any (D T q c : Nat) (s0 : S8) (x : List Int) (len l8 : Int) (K : Nat → Int) (r : Nat) (hr64 : r = 64) (w : World) (hD : Blk w D 162 (dg s0 x (q : Int) len)) (hx : x.length = 64) (hq : q < 64) (hc : padT q + 8 ≤ c)
    (hP : ∀ j, j < padT q + 8 → w.cell? ⟨T, 0 + j, none⟩ = some (.int .u8 ((pad2 q l8).getD j 0))) (hT : T < w.heap.size) (hTD : T ≠ D) (hK : KAt w K) (h7 : 7 < w.heap.size) (h7D : 7 ≠ D) :
    Calls Tryd.prog 137 #[.pointer (some ⟨D, 0, none⟩), .slice (some ⟨T, 0, none⟩) (padT q + 8) c] w fun E w' => (∃ v, E = .returned v) ∧ (∃ X L, X.length = 64 ∧ Blk w' D 162 (dg (fin2 K r s0 x q l8) X 0 L)) ∧ w.grownBy w' (some D) := by
  have hp := padT_le q hq
  have hl := pad2_length q l8 hq
  by_cases h0 : q = 0
  · subst h0
    have ht : padT 0 + 8 = 64 := rfl
    refine (write0_any D T 0 (padT 0 + 8) c s0 x (pad2 0 l8) len K r hr64 w hD hx (by omega) hl hc hP hT hTD hK h7 h7D).mono ?_
    rintro E w' ⟨hv, hB, hg⟩
    refine ⟨hv, ⟨x, IntKind.u64.wrap (len + ((padT 0 + 8 : Nat) : Int)), hx, ?_⟩, hg⟩
    · have e1 : (pad2 0 l8).drop (64 * ((padT 0 + 8) / 64)) = [] := List.drop_of_length_le (by rw [hl]; omega)
      rw [e1, lay_nil] at hB
      rw [fin2, if_pos rfl]
      exact hB
  · refine (write1_any D T 0 (padT q + 8) c q s0 x (pad2 q l8) len K r hr64 w (by omega) hq hD hx (by omega) hl hc hP hT hTD hK h7 h7D).mono ?_
    rintro E w' ⟨hv, hB, hg⟩
    refine ⟨hv, ⟨lay x q ((pad2 q l8).take (64 - q)), IntKind.u64.wrap (len + ((padT q + 8 : Nat) : Int)), ?_, ?_⟩, hg⟩
    · rw [lay_length (by rw [List.length_take, hl, hx]; omega), hx]
    · rw [fin2, if_neg h0]
      exact hB

set_option maxRecDepth 1000000 in
set_option maxHeartbeats 8000000 in
theorem checkSum_any (D q n : Nat) (s0 : S8) (x : List Int) (K : Nat → Int) (r : Nat) (hr64 : r = 64) (w : World) (hD : Blk w D 162 (dg s0 x (q : Int) (n : Int))) (hx : x.length = 64) (hq : n % 64 = q) (hn : n ≤ 2048) (hK : KAt w K) (h7D : 7 < D) :
    Calls Tryd.prog 139 #[.pointer (some ⟨D, 0, none⟩)] w fun E w' => E = .returned (.agg (ivals (out2 (fin2 K r s0 x q ((n : Int) * 8)))).toArray) ∧ (∃ s X L, X.length = 64 ∧ Blk w' D 162 (dg s X 0 L)) ∧ w.grownBy w' (some D) := by
  obtain ⟨i0, hi, hz0, hz1, hz2⟩ := info_parts info97
  obtain ⟨j0, hj, hy0, hy1, hy2⟩ := info_parts info189
  obtain ⟨SF, HSF⟩ : ∃ SF, Hid (SF = fin2 K r s0 x q ((n : Int) * 8)) := ⟨_, rfl⟩
  rw [← HSF.out]
  have c73 : w.cell? ⟨D, 73, none⟩ = some (.int .u64 (n : Int)) := by rw [hD.cell, dg_len hx]
  obtain ⟨t, ht⟩ : ∃ t, padT q = t := ⟨_, rfl⟩
  have htq : (q < 56 ∧ t = 56 - q) ∨ (56 ≤ q ∧ t = 120 - q) := by
    rw [← ht, padT]
    by_cases h : q < 56
    · rw [if_pos h]; exact Or.inl ⟨h, rfl⟩
    · rw [if_neg h]; exact Or.inr ⟨by omega, rfl⟩
  have hq64 : q < 64 := by omega
  have ht1 : 1 ≤ t ∧ t ≤ 64 := by omega
  obtain ⟨l8, hl8⟩ : ∃ l8 : Int, (n : Int) * 8 = l8 := ⟨_, rfl⟩
  have w8 : IntKind.u64.wrap l8 = l8 := IntWalk.u64_in _ (by omega)
  have em : Int.tmod (n : Int) 64 = (q : Int) := by rw [Int.tmod_eq_emod_of_nonneg (by omega)]; omega
  have wq : IntKind.u64.wrap (q : Int) = (q : Int) := IntWalk.u64_in _ (by omega)
  have wt : IntKind.u64.wrap (t : Int) = (t : Int) := IntWalk.u64_in _ (by omega)
  obtain ⟨t8, ht8⟩ : ∃ t8, t + 8 = t8 := ⟨_, rfl⟩
  have et8 : (t : Int) + 8 = (t8 : Int) := by omega
  have wt8 : IntKind.u64.wrap (t8 : Int) = (t8 : Int) := IntWalk.u64_in _ (by omega)
  have b72 : (t8 : Int) ≤ 72 := by omega
  have bt8 : (t : Int) ≤ (t8 : Int) := by omega
  have bt72 : (t : Int) ≤ 72 := by omega
  have nt72 : ¬ 72 = t := by omega
  have e8 : t8 - t = 8 := by omega
  have HD := Lib.hid hD
  have HX := Lib.hid hx
  have HK := Lib.hid hK
  have HQ := Lib.hid hq
  have HTQ := Lib.hid htq
  have HT := Lib.hid ht
  have HT8 := Lib.hid ht8
  have HT1 := Lib.hid ht1
  have HL8 := Lib.hid hl8
  have hDl := hD.lt
  clear hD hx hK hq htq ht ht8 ht1
  go_enter Tryd.func139, Tryd.ntmps139
  go_upto_if 15 with (first | (refine wpList_alloc_arr rfl 97 rfl _ i0 hi hz0 ?_; intro w1 R HR hR1 hb1 hs1; have d73 : w1.cell? ⟨D, 73, none⟩ = some (.int .u64 (n : Int)) := (hb1.cell (p := ⟨D, 73, none⟩) hDl).trans c73; replace hR1 := Lib.hid hR1; replace hb1 := Lib.hid hb1; clear c73) | (refine wpList_alloc_arr rfl 189 rfl _ j0 hj hy0 ?_; intro w2 T HT2 hT2 hb2 hs2; have t0 : w2.cell? ⟨T, 0, none⟩ = some (.int .u8 0) := (by rw [hT2.cell]; rfl); have tf0 : w2.frozen? ⟨T, 0, none⟩ = false := hT2.frozen _; replace hT2 := Lib.hid hT2; replace hb2 := Lib.hid hb2))
  go_cut [5] from 8 (fun s5 wx => s5 = .int .u64 (t : Int) ∧ wx = w2.setCell ⟨T, 0, none⟩ (.int .u8 128))
  case first =>
    rcases HTQ.out with ⟨h1, h2⟩ | ⟨h1, h2⟩
    · have d1 : (q : Int) < 56 := by omega
      have d2 : (56 : Int) - (q : Int) = (t : Int) := by omega
      go_wp2_with fail
      go_meet
      exact ⟨by rw [h2], rfl⟩
    · have d1 : ¬ (q : Int) < 56 := by omega
      have d2 : (120 : Int) - (q : Int) = (t : Int) := by omega
      go_wp2_with fail
      go_meet
      exact ⟨by rw [h2], rfl⟩
  case rest =>
    obtain ⟨rfl, hwc⟩ := hcut
    have hR : R = w.heap.size := HR.out
    have hTT : T = w1.heap.size := HT2.out
    have hs1' : w1.heap.size = R + 1 := hs1.out
    have hRT : Hid (w.heap.size ≤ R ∧ R < T ∧ D < w.heap.size) := ⟨by omega, by omega, hDl⟩
    have HB0 : Hid (Below w.heap.size w w2) := hb1.out.trans (hb2.out.mono hb1.out.size)
    have HD3 : Hid (Blk wc D 162 (dg s0 x (q : Int) (n : Int))) := by rw [hwc]; exact (HD.out.below HB0.out hDl).far (p := ⟨T, 0, none⟩) (by simp only; omega) _
    have HT3 : Hid (Blk wc T 189 (ivals ((List.replicate 72 0).set 0 128))) := by rw [hwc, ← ivals_set]; exact hT2.out.set_ 0 _
    have HR3 : Hid (Blk wc R 97 (ivals (List.replicate 32 0))) := by rw [hwc]; exact (hR1.out.below hb2.out (by omega)).far (p := ⟨T, 0, none⟩) (by simp only; omega) _
    have HB3 : Hid (Below w.heap.size w wc) := by rw [hwc]; exact HB0.out.setCell (p := ⟨T, 0, none⟩) (by simp only; omega) _
    clear hwc hR hTT hs1' HB0 hT2 hR1 hb1 hb2 d73 t0 tf0 HR HT2 hs1 hs2 HD HTQ
    go_wp2_with fail
    refine (depsPut64_any T t 8 _ 189 _ l8 wc (by omega) HT3.out (by rw [ivals_length, List.length_set, List.length_replicate]; have := HT1.out; omega)).mono ?_
    rintro E w4 ⟨rfl, hT4, hg4⟩
    rw [set8_ivals] at hT4
    have HT4 := Lib.hid hT4
    have HD4 : Hid (Blk w4 D 162 (dg s0 x (q : Int) (n : Int))) := HD3.out.grown hg4 (by have := hRT.out; simp; omega)
    have HR4 : Hid (Blk w4 R 97 (ivals (List.replicate 32 0))) := HR3.out.grown hg4 (by have := hRT.out; simp; omega)
    have HB4 : Hid (Below w.heap.size w w4) := HB3.out.trans (below_of_grown hg4 (by have := hRT.out; omega) HB3.out.size)
    clear hT4 hg4 HD3 HT3 HR3 HB3
    have h7w : 7 < w.heap.size := by have := hRT.out; omega
    have HCW : Hid (Calls Tryd.prog 137 #[.pointer (some ⟨D, 0, none⟩), .slice (some ⟨T, 0, none⟩) t8 72] w4 fun E w' => (∃ v, E = .returned v) ∧ (∃ X L, X.length = 64 ∧ Blk w' D 162 (dg SF X 0 L)) ∧ w4.grownBy w' (some D)) := by
      show Calls _ _ _ _ _
      rw [HSF.out, ← HT8.out, ← HT.out, HL8.out]
      refine finWrite_any D T q 72 s0 x (n : Int) l8 K r hr64 w4 HD4.out HX.out hq64 (by rw [HT.out]; omega) (fun j hj => ?_) HT4.out.lt (by have := hRT.out; omega) (fun i hi => (HB4.out.cell (p := ⟨7, i, none⟩) h7w).trans (HK.out i hi)) (Nat.lt_of_lt_of_le h7w HB4.out.size) (by omega)
      have hjt : j < t + 8 := by rw [HT.out] at hj; exact hj
      rw [Nat.zero_add, HT4.out.cell, ivals_get (by rw [sets8_length, List.length_set, List.length_replicate]; have := HT1.out; omega), pad2, HT.out, List.getD_eq_getElem?_getD, List.getD_eq_getElem?_getD, List.getElem?_take]
      simp [hjt]
    go_wp2_with fail
    refine HCW.out.mono ?_
    rintro E w5 ⟨⟨v5, rfl⟩, ⟨X, L5, hX5, hD5⟩, hg5⟩
    have HX5 := Lib.hid hX5
    have HD5 := Lib.hid hD5
    have HR5 : Hid (Blk w5 R 97 (ivals (List.replicate 32 0))) := HR4.out.grown hg5 (by have := hRT.out; simp; omega)
    have HG5 : Hid (w.grownBy w5 (some D)) := grown_trans (below_grown HB4.out _) hg5
    have c72 : w5.cell? ⟨D, 72, none⟩ = some (.int .i64 0) := by rw [HD5.out.cell, dg_nx HX5.out]
    clear hX5 hD5 hg5 HD4 HR4 HB4 HCW HT4
    go_wp2_with (refine wpList_alloc_arr rfl 97 rfl _ i0 hi hz0 ?_; intro w6 G HG hG6 hb6 hs6; replace hG6 := Lib.hid hG6; replace hb6 := Lib.hid hb6)
    have HD6 : Hid (Blk w6 D 162 (dg SF X 0 L5)) := HD5.out.below hb6.out HD5.out.lt
    have HR6 : Hid (Blk w6 R 97 (ivals (List.replicate 32 0))) := HR5.out.below hb6.out HR5.out.lt
    have HG6 : Hid (w.grownBy w6 (some D)) := grown_below HG5.out hb6.out
    have hGD : Hid (D ≠ G ∧ R ≠ G ∧ w.heap.size ≤ G) := by
      have h1 := HG.out
      have h2 := HD5.out.lt
      have h3 := HR5.out.lt
      have h4 := HG5.out.size
      exact ⟨by omega, by omega, by omega⟩
    clear hb6 HD5 HR5 HG5 HG hs6 c72
    obtain ⟨sa, sb, sc, sd, se, sf, sg, sh'⟩ := SF
    obtain ⟨l0, Hl0⟩ : ∃ l0, Hid (l0 = List.replicate 32 (0 : Int)) := ⟨_, rfl⟩
    have Hll0 : Hid (l0.length = 32) := by show _ = _; rw [Hl0.out]; rfl
    rw [← Hl0.out] at hG6
    have cq0 : w6.cell? ⟨D, 0, none⟩ = some (.int .u32 sa) := by rw [HD6.out.cell]; rfl
    go_wp2_with fail
    go_still_tail 6, (by kernel_rfl)
    go_wp2_with fail
    refine (depsPut32_any G 0 _ _ 97 _ sa (w6.drewN 1) (by omega) (hG6.out.drewN 1) (by rw [ivals_length, Hll0.out]; omega)).mono ?_
    rintro E uq0 ⟨rfl, hbq0, hgq0⟩
    rw [set4_ivals] at hbq0
    obtain ⟨l1, Hl1⟩ : ∃ l', Hid (l' = sets4 l0 0 sa) := ⟨_, rfl⟩
    have Hll1 : Hid (l1.length = 32) := by show _ = _; rw [Hl1.out, sets4_length, Hll0.out]
    rw [← Hl1.out] at hbq0
    have hGu0 := Lib.hid hbq0
    have HDu0 : Hid (Blk uq0 D 162 (dg (sa, sb, sc, sd, se, sf, sg, sh') X 0 L5)) := (HD6.out.drewN 1).grown hgq0 (fun e => hGD.out.1 (Option.some.inj e))
    have HRu0 : Hid (Blk uq0 R 97 (ivals (List.replicate 32 0))) := (HR6.out.drewN 1).grown hgq0 (fun e => hGD.out.2.1 (Option.some.inj e))
    have HGu0 : Hid (w.grownBy uq0 (some D)) := grown_below2 (grown_drewN HG6.out 1) hgq0 hGD.out.2.2
    clear hbq0 hgq0 cq0 HD6 HR6 HG6 hG6
    have cq1 : uq0.cell? ⟨D, 1, none⟩ = some (.int .u32 sb) := by rw [HDu0.out.cell]; rfl
    go_wp2_with fail
    go_still_tail 6, (by kernel_rfl)
    go_wp2_with fail
    refine (depsPut32_any G 4 _ _ 97 _ sb (uq0.drewN 1) (by omega) (hGu0.out.drewN 1) (by rw [ivals_length, Hll1.out]; omega)).mono ?_
    rintro E uq1 ⟨rfl, hbq1, hgq1⟩
    rw [set4_ivals] at hbq1
    obtain ⟨l2, Hl2⟩ : ∃ l', Hid (l' = sets4 l1 4 sb) := ⟨_, rfl⟩
    have Hll2 : Hid (l2.length = 32) := by show _ = _; rw [Hl2.out, sets4_length, Hll1.out]
    rw [← Hl2.out] at hbq1
    have hGu1 := Lib.hid hbq1
    have HDu1 : Hid (Blk uq1 D 162 (dg (sa, sb, sc, sd, se, sf, sg, sh') X 0 L5)) := (HDu0.out.drewN 1).grown hgq1 (fun e => hGD.out.1 (Option.some.inj e))
    have HRu1 : Hid (Blk uq1 R 97 (ivals (List.replicate 32 0))) := (HRu0.out.drewN 1).grown hgq1 (fun e => hGD.out.2.1 (Option.some.inj e))
    have HGu1 : Hid (w.grownBy uq1 (some D)) := grown_below2 (grown_drewN HGu0.out 1) hgq1 hGD.out.2.2
    clear hbq1 hgq1 cq1 HDu0 HRu0 HGu0 hGu0
    have cq2 : uq1.cell? ⟨D, 2, none⟩ = some (.int .u32 sc) := by rw [HDu1.out.cell]; rfl
    go_wp2_with fail
    go_still_tail 6, (by kernel_rfl)
    go_wp2_with fail
    refine (depsPut32_any G 8 _ _ 97 _ sc (uq1.drewN 1) (by omega) (hGu1.out.drewN 1) (by rw [ivals_length, Hll2.out]; omega)).mono ?_
    rintro E uq2 ⟨rfl, hbq2, hgq2⟩
    rw [set4_ivals] at hbq2
    obtain ⟨l3, Hl3⟩ : ∃ l', Hid (l' = sets4 l2 8 sc) := ⟨_, rfl⟩
    have Hll3 : Hid (l3.length = 32) := by show _ = _; rw [Hl3.out, sets4_length, Hll2.out]
    rw [← Hl3.out] at hbq2
    have hGu2 := Lib.hid hbq2
    have HDu2 : Hid (Blk uq2 D 162 (dg (sa, sb, sc, sd, se, sf, sg, sh') X 0 L5)) := (HDu1.out.drewN 1).grown hgq2 (fun e => hGD.out.1 (Option.some.inj e))
    have HRu2 : Hid (Blk uq2 R 97 (ivals (List.replicate 32 0))) := (HRu1.out.drewN 1).grown hgq2 (fun e => hGD.out.2.1 (Option.some.inj e))
    have HGu2 : Hid (w.grownBy uq2 (some D)) := grown_below2 (grown_drewN HGu1.out 1) hgq2 hGD.out.2.2
    clear hbq2 hgq2 cq2 HDu1 HRu1 HGu1 hGu1
    have cq3 : uq2.cell? ⟨D, 3, none⟩ = some (.int .u32 sd) := by rw [HDu2.out.cell]; rfl
    go_wp2_with fail
    go_still_tail 6, (by kernel_rfl)
    go_wp2_with fail
    refine (depsPut32_any G 12 _ _ 97 _ sd (uq2.drewN 1) (by omega) (hGu2.out.drewN 1) (by rw [ivals_length, Hll3.out]; omega)).mono ?_
    rintro E uq3 ⟨rfl, hbq3, hgq3⟩
    rw [set4_ivals] at hbq3
    obtain ⟨l4, Hl4⟩ : ∃ l', Hid (l' = sets4 l3 12 sd) := ⟨_, rfl⟩
    have Hll4 : Hid (l4.length = 32) := by show _ = _; rw [Hl4.out, sets4_length, Hll3.out]
    rw [← Hl4.out] at hbq3
    have hGu3 := Lib.hid hbq3
    have HDu3 : Hid (Blk uq3 D 162 (dg (sa, sb, sc, sd, se, sf, sg, sh') X 0 L5)) := (HDu2.out.drewN 1).grown hgq3 (fun e => hGD.out.1 (Option.some.inj e))
    have HRu3 : Hid (Blk uq3 R 97 (ivals (List.replicate 32 0))) := (HRu2.out.drewN 1).grown hgq3 (fun e => hGD.out.2.1 (Option.some.inj e))
    have HGu3 : Hid (w.grownBy uq3 (some D)) := grown_below2 (grown_drewN HGu2.out 1) hgq3 hGD.out.2.2
    clear hbq3 hgq3 cq3 HDu2 HRu2 HGu2 hGu2
    have cq4 : uq3.cell? ⟨D, 4, none⟩ = some (.int .u32 se) := by rw [HDu3.out.cell]; rfl
    go_wp2_with fail
    go_still_tail 6, (by kernel_rfl)
    go_wp2_with fail
    refine (depsPut32_any G 16 _ _ 97 _ se (uq3.drewN 1) (by omega) (hGu3.out.drewN 1) (by rw [ivals_length, Hll4.out]; omega)).mono ?_
    rintro E uq4 ⟨rfl, hbq4, hgq4⟩
    rw [set4_ivals] at hbq4
    obtain ⟨l5, Hl5⟩ : ∃ l', Hid (l' = sets4 l4 16 se) := ⟨_, rfl⟩
    have Hll5 : Hid (l5.length = 32) := by show _ = _; rw [Hl5.out, sets4_length, Hll4.out]
    rw [← Hl5.out] at hbq4
    have hGu4 := Lib.hid hbq4
    have HDu4 : Hid (Blk uq4 D 162 (dg (sa, sb, sc, sd, se, sf, sg, sh') X 0 L5)) := (HDu3.out.drewN 1).grown hgq4 (fun e => hGD.out.1 (Option.some.inj e))
    have HRu4 : Hid (Blk uq4 R 97 (ivals (List.replicate 32 0))) := (HRu3.out.drewN 1).grown hgq4 (fun e => hGD.out.2.1 (Option.some.inj e))
    have HGu4 : Hid (w.grownBy uq4 (some D)) := grown_below2 (grown_drewN HGu3.out 1) hgq4 hGD.out.2.2
    clear hbq4 hgq4 cq4 HDu3 HRu3 HGu3 hGu3
    have cq5 : uq4.cell? ⟨D, 5, none⟩ = some (.int .u32 sf) := by rw [HDu4.out.cell]; rfl
    go_wp2_with fail
    go_still_tail 6, (by kernel_rfl)
    go_wp2_with fail
    refine (depsPut32_any G 20 _ _ 97 _ sf (uq4.drewN 1) (by omega) (hGu4.out.drewN 1) (by rw [ivals_length, Hll5.out]; omega)).mono ?_
    rintro E uq5 ⟨rfl, hbq5, hgq5⟩
    rw [set4_ivals] at hbq5
    obtain ⟨l6, Hl6⟩ : ∃ l', Hid (l' = sets4 l5 20 sf) := ⟨_, rfl⟩
    have Hll6 : Hid (l6.length = 32) := by show _ = _; rw [Hl6.out, sets4_length, Hll5.out]
    rw [← Hl6.out] at hbq5
    have hGu5 := Lib.hid hbq5
    have HDu5 : Hid (Blk uq5 D 162 (dg (sa, sb, sc, sd, se, sf, sg, sh') X 0 L5)) := (HDu4.out.drewN 1).grown hgq5 (fun e => hGD.out.1 (Option.some.inj e))
    have HRu5 : Hid (Blk uq5 R 97 (ivals (List.replicate 32 0))) := (HRu4.out.drewN 1).grown hgq5 (fun e => hGD.out.2.1 (Option.some.inj e))
    have HGu5 : Hid (w.grownBy uq5 (some D)) := grown_below2 (grown_drewN HGu4.out 1) hgq5 hGD.out.2.2
    clear hbq5 hgq5 cq5 HDu4 HRu4 HGu4 hGu4
    have cq6 : uq5.cell? ⟨D, 6, none⟩ = some (.int .u32 sg) := by rw [HDu5.out.cell]; rfl
    go_wp2_with fail
    go_still_tail 6, (by kernel_rfl)
    go_wp2_with fail
    refine (depsPut32_any G 24 _ _ 97 _ sg (uq5.drewN 1) (by omega) (hGu5.out.drewN 1) (by rw [ivals_length, Hll6.out]; omega)).mono ?_
    rintro E uq6 ⟨rfl, hbq6, hgq6⟩
    rw [set4_ivals] at hbq6
    obtain ⟨l7, Hl7⟩ : ∃ l', Hid (l' = sets4 l6 24 sg) := ⟨_, rfl⟩
    have Hll7 : Hid (l7.length = 32) := by show _ = _; rw [Hl7.out, sets4_length, Hll6.out]
    rw [← Hl7.out] at hbq6
    have hGu6 := Lib.hid hbq6
    have HDu6 : Hid (Blk uq6 D 162 (dg (sa, sb, sc, sd, se, sf, sg, sh') X 0 L5)) := (HDu5.out.drewN 1).grown hgq6 (fun e => hGD.out.1 (Option.some.inj e))
    have HRu6 : Hid (Blk uq6 R 97 (ivals (List.replicate 32 0))) := (HRu5.out.drewN 1).grown hgq6 (fun e => hGD.out.2.1 (Option.some.inj e))
    have HGu6 : Hid (w.grownBy uq6 (some D)) := grown_below2 (grown_drewN HGu5.out 1) hgq6 hGD.out.2.2
    clear hbq6 hgq6 cq6 HDu5 HRu5 HGu5 hGu5
    have c74 : uq6.cell? ⟨D, 74, none⟩ = some (.bool false) := by rw [HDu6.out.cell, dg_224 HX5.out]
    have cq7 : uq6.cell? ⟨D, 7, none⟩ = some (.int .u32 sh') := by rw [HDu6.out.cell]; rfl
    go_wp2_with fail
    go_still_tail 6, (by kernel_rfl)
    go_wp2_with fail
    refine (depsPut32_any G 28 _ _ 97 _ sh' (uq6.drewN 1) (by omega) (hGu6.out.drewN 1) (by rw [ivals_length, Hll7.out]; omega)).mono ?_
    rintro E uq7 ⟨rfl, hbq7, hgq7⟩
    rw [set4_ivals] at hbq7
    obtain ⟨l8, Hl8⟩ : ∃ l', Hid (l' = sets4 l7 28 sh') := ⟨_, rfl⟩
    have Hll8 : Hid (l8.length = 32) := by show _ = _; rw [Hl8.out, sets4_length, Hll7.out]
    rw [← Hl8.out] at hbq7
    have hGu7 := Lib.hid hbq7
    have HDu7 : Hid (Blk uq7 D 162 (dg (sa, sb, sc, sd, se, sf, sg, sh') X 0 L5)) := (HDu6.out.drewN 1).grown hgq7 (fun e => hGD.out.1 (Option.some.inj e))
    have HRu7 : Hid (Blk uq7 R 97 (ivals (List.replicate 32 0))) := (HRu6.out.drewN 1).grown hgq7 (fun e => hGD.out.2.1 (Option.some.inj e))
    have HGu7 : Hid (w.grownBy uq7 (some D)) := grown_below2 (grown_drewN HGu6.out 1) hgq7 hGD.out.2.2
    clear hbq7 hgq7 cq7 HDu6 HRu6 HGu6 hGu6
    go_wp2_with (first | (refine wpList_load_row rfl 97 (.tmp 7) rfl G rfl 97 _ (0, 0) _ hGu7.out Tryd.underlying97 rfl (by rw [hi]; simp [hz1, ivals_length, Hll8.out]) ?_) | (refine wpList_store_blk rfl 97 (.tmp 2) (.tmp 103) rfl R 97 _ (ivals l8) rfl rfl HRu7.out (by rw [ivals_length, ivals_length, Hll8.out]; rfl) (by rw [hi]; simp [hz1, ivals_length, Hll8.out]) ivals_one ?_; intro wz hRz hgz hsz; replace hRz := Lib.hid hRz))
    have e : out2 (sa, sb, sc, sd, se, sf, sg, sh') = l8 := by rw [Hl8.out, Hl7.out, Hl6.out, Hl5.out, Hl4.out, Hl3.out, Hl2.out, Hl1.out, Hl0.out]; rfl
    rw [e]
    refine bodyPost_ret (results_cell_row rfl _ _ R 97 (ivals l8).toArray (0, 0) _ rfl hRz.out Tryd.underlying97 rfl (by rw [hi]; simp [hz1, ivals_length, Hll8.out])) rfl ?_
    exact ⟨rfl, ⟨_, X, L5, HX5.out, HDu7.out.grown hgz (fun e => by have h1 := Option.some.inj e; have h2 := hRT.out; omega)⟩, grown_below2 HGu7.out hgz hRT.out.1⟩
end Go.Proofs.YtlnifplomlnoiaaDoor
