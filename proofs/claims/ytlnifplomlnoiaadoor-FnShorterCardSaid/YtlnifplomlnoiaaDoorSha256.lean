/- The library's Digest.Sum, Sum256, and the package's sha256Sum: SHA-256 of a text as a function sha2 on lists, whatever the package's table holds. Texts of 1 to 1024 bytes. -/
import Derived.Test.YtlnifplomlnoiaaDoorSha2Sum
namespace Go.Proofs.YtlnifplomlnoiaaDoor
open Go.RowKit

theorem info162b : (Tryd.prog.info? 162).map (·.size) = some 75 := by kernel_rfl
theorem info162c : ∃ i0, Tryd.prog.info? 162 = some i0 ∧ i0.zero = some (.agg (dg (0, 0, 0, 0, 0, 0, 0, 0) (List.replicate 64 0) 0 0).toArray) := by
  have h := info162
  cases hq : Tryd.prog.info? 162 with
  | none => rw [hq] at h; cases h
  | some i0 =>
    rw [hq] at h
    exact ⟨i0, rfl, congrArg Prod.fst (Option.some.inj h)⟩
theorem dg_one {s : S8} {x : List Int} {nx len : Int} : ∀ u ∈ dg s x nx len, u.oneCell' = true := by
  intro u hu
  rw [dg, List.mem_append, List.mem_append] at hu
  rcases hu with hu | hu | hu
  · exact uvals_one u hu
  · exact ivals_one u hu
  · simp only [List.mem_cons, List.not_mem_nil, or_false] at hu
    rcases hu with rfl | rfl | rfl <;> rfl

set_option maxRecDepth 1000000 in
set_option maxHeartbeats 8000000 in
theorem shaSum_any (D S q n : Nat) (s0 : S8) (x z : List Int) (K : Nat → Int) (r : Nat) (hr64 : r = 64) (w : World) (hD : Blk w D 162 (dg s0 x (q : Int) (n : Int))) (hx : x.length = 64) (hq : n % 64 = q) (hn : n ≤ 2048) (hK : KAt w K) (h7 : 7 < w.heap.size) (hS : Blk w S 97 (ivals z)) (hz : z.length = 32) (_hSD : S ≠ D) :
    Calls Tryd.prog 136 #[.pointer (some ⟨D, 0, none⟩), .slice (some ⟨S, 0, none⟩) 0 32] w fun E w' => (∃ v, E = .returned v) ∧ Blk w' S 97 (ivals (out2 (fin2 K r s0 x q ((n : Int) * 8)))) ∧ w.grownBy w' (some S) := by
  obtain ⟨i0, hi, hz0, hz1, hz2⟩ := info_parts info97
  obtain ⟨j0, hj, hy0⟩ := info162c
  obtain ⟨k0, hk, hu0, hu1, hu2⟩ := info_parts info5b
  obtain ⟨OUT, HOUT⟩ : ∃ OUT, Hid (OUT = out2 (fin2 K r s0 x q ((n : Int) * 8))) := ⟨_, rfl⟩
  have HOL : Hid (OUT.length = 32) := by show _ = _; rw [HOUT.out, out2_length]
  rw [← HOUT.out]
  obtain ⟨G, HG⟩ : ∃ G, Hid (G = dg s0 x (q : Int) (n : Int)) := ⟨_, rfl⟩
  have hGl : G.length = 75 := by rw [HG.out, dg_length hx]
  have HGl := Lib.hid hGl
  rw [← HG.out] at hD
  have HD := Lib.hid hD
  have HX := Lib.hid hx
  have HQ := Lib.hid hq
  have HK := Lib.hid hK
  have H7 := Lib.hid h7
  have HS := Lib.hid hS
  have HZ := Lib.hid hz
  clear hD hx hq hK h7 hS hz hGl
  go_enter Tryd.func136, Tryd.ntmps136
  go_wp2_with fail
  refine (recordApproved_any w).mono ?_
  rintro E w1 ⟨rfl, rfl⟩
  go_wp2_with (first | (refine wpList_load_row rfl 162 (.tmp 9) rfl D rfl 162 _ (0, 0) _ HD.out Tryd.underlying162 rfl (by rw [info162b]; simp [HGl.out]) ?_) | (refine wpList_alloc_arr rfl 162 rfl _ j0 hj hy0 ?_; intro w2 F HF hF hb2 hs2; replace hF := Lib.hid hF; replace hb2 := Lib.hid hb2) | (refine wpList_store_blk rfl 162 (.tmp 5) (.tmp 10) rfl F 162 _ G rfl rfl hF.out (by rw [HGl.out, dg_length (by simp)]) (by rw [info162b, HGl.out]) (by rw [HG.out]; exact dg_one) ?_; intro w3 hF3 hg3 hs3; replace hF3 := Lib.hid hF3; replace hg3 := Lib.hid hg3))
  have HFw : Hid (w.heap.size = F) := HF.out.symm
  have HB3 : Hid (Below w.heap.size w w3) := hb2.out.trans (below_of_grown hg3.out (by have := HFw.out; omega) hb2.out.size)
  have hF3' := hF3.out
  rw [HG.out] at hF3'
  refine (checkSum_any F q n s0 x K r hr64 w3 hF3' HX.out HQ.out hn (fun i hi => (HB3.out.cell (p := ⟨7, i, none⟩) H7.out).trans (HK.out i hi)) (by have h1 := HFw.out; have h2 := H7.out; omega)).mono ?_
  rintro E w4 ⟨rfl, ⟨sx, X, LL, hX, hF4⟩, hg4⟩
  rw [← HOUT.out]
  have HF4 := Lib.hid hF4
  have HXX := Lib.hid hX
  have HB4 : Hid (Below w.heap.size w w4) := HB3.out.trans (below_of_grown hg4 (by have := HFw.out; omega) HB3.out.size)
  clear hF4 hX hg4 HB3 hF3 hF3' hg3 hF hb2 HF
  go_upto_region 6 with (first | (refine wpList_alloc_arr rfl 97 rfl _ i0 hi hz0 ?_; intro w5 C HC hC hb5 hs5; replace hC := Lib.hid hC; replace hb5 := Lib.hid hb5) | (refine wpList_store_blk rfl 97 (.tmp 6) (.tmp 11) rfl C 97 _ (ivals OUT) rfl rfl hC.out (by rw [ivals_length, ivals_length, HOL.out]; rfl) (by rw [hi]; simp [hz1, ivals_length, HOL.out]) ivals_one ?_; intro w6 hC6 hg6 hs6; have c74 : w6.cell? ⟨F, 74, none⟩ = some (.bool false) := (by have h1 := HF4.out.lt; have h2 := HC.out; rw [((HF4.out.below hb5.out h1).grown hg6 (fun e => by have := Option.some.inj e; omega)).cell, dg_224 HXX.out]); replace hC6 := Lib.hid hC6; replace hg6 := Lib.hid hg6))
  have HSC : Hid (∀ j u, (ivals OUT)[j]? = some u → w6.cell? ((⟨C, 0, none⟩ : Addr).add j) = some u) := by
    intro j u hu
    have e : (⟨C, 0, none⟩ : Addr).add j = ⟨C, 0 + j, none⟩ := by unfold Addr.add; split <;> simp_all
    rw [e, Nat.zero_add, hC6.out.cell]
    exact hu
  have hSC : Hid (S ≠ C ∧ w.heap.size ≤ C) := by
    have h2 := HC.out
    have h3 := HS.out.lt
    have h4 := HB4.out.size
    exact ⟨by omega, by omega⟩
  have HS6 : Hid (Blk w6 S 97 (ivals z)) := ((HS.out.below HB4.out HS.out.lt).below hb5.out (Nat.lt_of_lt_of_le HS.out.lt HB4.out.size)).grown hg6.out (fun e => hSC.out.1 (Option.some.inj e))
  have HSP : Hid (0 + 32 ≤ 32 → ∀ j, j < (ivals OUT).length → (w6.cell? ⟨S, 0 + 0 * 1 + j, none⟩).isSome = true ∧ w6.frozen? ⟨S, 0 + 0 * 1 + j, none⟩ = false) := by
    intro _ j hj
    rw [ivals_length, HOL.out] at hj
    simp only [Nat.zero_mul, Nat.zero_add]
    rw [HS6.out.cell, List.getElem?_eq_getElem (by rw [ivals_length, HZ.out]; exact hj)]
    exact ⟨rfl, HS6.out.frozen _⟩
  have HB6 : Hid (Below w.heap.size w w6) := (HB4.out.trans (hb5.out.mono HB4.out.size)).trans (below_of_grown hg6.out hSC.out.2 (Nat.le_trans HB4.out.size hb5.out.size))
  have hF : ¬ (32 : Nat) < 0 + 32 := by omega
  go_wp2_with (at_builtin; refine wpList_append_arg _ rfl _ _ 22 rfl 5 k0 _ 1 1 Tryd.underlying22 hk hu0 hu1 hu2 rfl (by decide) S 0 0 32 [] rfl rfl (by simp) ⟨C, 0, none⟩ 32 32 (ivals OUT) rfl (by rw [ivals_length, HOL.out]) HSC.out ivals_one HSP.out (by unfold maxLen; omega) (by omega) ?_ (fun h => absurd h hF); intro _)
  have hBS := blk_setCells S 97 (ivals OUT) (ivals z) 0 w6 HS6.out (by rw [ivals_length, ivals_length, HOL.out, HZ.out])
  rw [List.take_zero, List.nil_append] at hBS
  have hgS := (grown_setCells S (ivals OUT) 0 w w6 (below_grown HB6.out _)).1
  go_ret
  exact ⟨⟨_, rfl⟩, hBS, hgS⟩

/-- SHA-256 by the table K (r is 64). -/
def sha2 (K : Nat → Int) (r : Nat) (l : List Int) : List Int :=
  out2 (fin2 K r (kBlocks r K l kInit (l.length / 64)).2 (lay (List.replicate 64 0) 0 (l.drop (64 * (l.length / 64)))) (l.length % 64) ((l.length : Int) * 8))
theorem sha2_length (K : Nat → Int) (r : Nat) (l : List Int) : (sha2 K r l).length = 32 := out2_length _

theorem nil_sum (a : Addr) (w : World) : (nilAhead 293 146 (.pointer (some a)) "Sum").run Tryd.prog w = .ok (some false) w := by kernel_rfl
theorem method_sum (a : Addr) (w : World) : (method 293 146 (.pointer (some a)) "Sum").run Tryd.prog w = .ok (136, .pointer (some a)) w := by kernel_rfl

set_option maxRecDepth 1000000 in
set_option maxHeartbeats 8000000 in
theorem sum256_any (A : Option Addr) (n c : Nat) (l : List Int) (K : Nat → Int) (r : Nat) (hr64 : r = 64) (w : World) (hr : Rd w w.heap.size A n (ivals l)) (hn0 : 0 < n) (hn : n ≤ 1024) (hnc : n ≤ c) (hK : KAt w K) (h7 : 7 < w.heap.size) :
    Calls Tryd.prog 68 #[.slice A n c] w fun E w' => E = .returned (.agg (ivals (sha2 K r l)).toArray) ∧ Below w.heap.size w w' := by
  obtain ⟨i0, hi, hz0, hz1, hz2⟩ := info_parts info97
  obtain ⟨g, o, rfl, hg, hcell⟩ := hr.2 hn0
  have hl : l.length = n := by rw [← ivals_length]; exact hr.1
  obtain ⟨OUT, HOUT⟩ : ∃ OUT, Hid (OUT = sha2 K r l) := ⟨_, rfl⟩
  have HOL : Hid (OUT.length = 32) := by show _ = _; rw [HOUT.out, sha2_length]
  rw [← HOUT.out]
  have HL := Lib.hid hl
  have HP : Hid (∀ j, j < n → w.cell? ⟨g, o + j, none⟩ = some (.int .u8 (l.getD j 0))) := fun j hj => hcell j _ (ivals_get (by rw [hl]; exact hj))
  have HG := Lib.hid hg
  have HK := Lib.hid hK
  have H7 := Lib.hid h7
  clear hr hcell hl hg hK h7
  go_enter Tryd.func68, Tryd.ntmps68
  go_wp2_with (refine wpList_alloc_arr rfl 97 rfl _ i0 hi hz0 ?_; intro w1 R HR hR hb1 hs1; replace hR := Lib.hid hR; replace hb1 := Lib.hid hb1)
  refine (shaNew_any w1).mono ?_
  rintro E w2 ⟨D, rfl, HD, hD2, hb2⟩
  have HD2 := Lib.hid hD2
  have HB2 : Hid (Below w.heap.size w w2) := hb1.out.trans (hb2.mono hb1.out.size)
  have HRD : Hid (R < D ∧ w.heap.size = R) := ⟨by have h1 := HD.out; have h2 := hR.out.lt; omega, HR.out.symm⟩
  have HR2 : Hid (Blk w2 R 97 (ivals (List.replicate 32 0))) := hR.out.below hb2 hR.out.lt
  clear hD2 hb2 hR hb1 HR hs1
  go_wp2_with fail
  refine (write0_any D g o n c kInit (List.replicate 64 0) l 0 K r hr64 w2 HD2.out (by simp) hn HL.out hnc (fun j hj => (HB2.out.cell (p := ⟨g, o + j, none⟩) HG.out).trans (HP.out j hj)) (Nat.lt_of_lt_of_le HG.out HB2.out.size) (by have h1 := HRD.out; have h2 := HG.out; omega) (fun i hi => (HB2.out.cell (p := ⟨7, i, none⟩) H7.out).trans (HK.out i hi)) (Nat.lt_of_lt_of_le H7.out HB2.out.size) (by have h1 := HRD.out; have h2 := H7.out; omega)).mono ?_
  rintro E w3 ⟨⟨v3, rfl⟩, hD3, hg3⟩
  rw [Int.zero_add, IntWalk.u64_in _ (by omega)] at hD3
  have HD3 := Lib.hid hD3
  have HB3 : Hid (Below w.heap.size w w3) := HB2.out.trans (below_of_grown hg3 (by have := HRD.out; omega) HB2.out.size)
  have HR3 : Hid (Blk w3 R 97 (ivals (List.replicate 32 0))) := HR2.out.grown hg3 (fun e => by have h1 := Option.some.inj e; have h2 := HRD.out; omega)
  clear hD3 hg3 HD2 HB2 HR2
  go_wp2_with (refine wpList_alloc_arr rfl 97 rfl _ i0 hi hz0 ?_; intro w4 S HS hS hb4 hs4; replace hS := Lib.hid hS; replace hb4 := Lib.hid hb4)
  have hSD : Hid (S ≠ D ∧ R ≠ S ∧ w.heap.size ≤ S) := by
    have h1 := HS.out
    have h2 := HD3.out.lt
    have h3 := HR3.out.lt
    have h4 := HB3.out.size
    exact ⟨by omega, by omega, by omega⟩
  have HD4 : Hid (Blk w4 D 162 _) := HD3.out.below hb4.out HD3.out.lt
  have HR4 : Hid (Blk w4 R 97 (ivals (List.replicate 32 0))) := HR3.out.below hb4.out HR3.out.lt
  have HB4 : Hid (Below w.heap.size w w4) := HB3.out.trans (hb4.out.mono HB3.out.size)
  clear HD3 HR3 HB3 hb4 HS hs4
  have CS : Hid (Calls Tryd.prog 136 #[.pointer (some ⟨D, 0, none⟩), .slice (some ⟨S, 0, none⟩) 0 32] w4.drew fun E w5 => (∃ v, E = .returned v) ∧ Hid (Blk w5 S 97 (ivals OUT)) ∧ Hid (Blk w5 R 97 (ivals (List.replicate 32 0))) ∧ Hid (Below w.heap.size w w5)) := by
    show Calls _ _ _ _ _
    refine (shaSum_any D S (n % 64) n _ _ (List.replicate 32 0) K r hr64 w4.drew (HD4.out.drewN 1) (by rw [lay_length (by rw [List.length_drop, HL.out]; simp; omega)]; simp) rfl (by omega) (fun i hi => (HB4.out.cell (p := ⟨7, i, none⟩) H7.out).trans (HK.out i hi)) (Nat.lt_of_lt_of_le H7.out HB4.out.size) (hS.out.drewN 1) (by simp) hSD.out.1).mono ?_
    rintro E w5 ⟨hv, hS5, hg5⟩
    have e : out2 (fin2 K r (kBlocks r K l kInit (n / 64)).2 (lay (List.replicate 64 0) 0 (l.drop (64 * (n / 64)))) (n % 64) ((n : Int) * 8)) = OUT := by rw [HOUT.out, sha2, HL.out]
    rw [e] at hS5
    exact ⟨hv, hS5, (HR4.out.drewN 1).grown hg5 (fun e => hSD.out.2.1 (Option.some.inj e)), (below_drewN HB4.out 1).trans (below_of_grown hg5 hSD.out.2.2 HB4.out.size)⟩
  have q1 := nil_sum
  have q2 := method_sum
  go_frame
  go_region_with (go_at_call 136; refine CS.out.mono ?_; rintro E w5 ⟨⟨v5, rfl⟩, HS5, HR5, HB5⟩)
  go_wp2_with (first | (refine wpList_load_row rfl 97 (.tmp 4) rfl S rfl 97 _ (0, 0) _ HS5.out Tryd.underlying97 rfl (by rw [hi]; simp [hz1, ivals_length, HOL.out]) ?_) | (refine wpList_store_blk rfl 97 (.tmp 2) (.tmp 17) rfl R 97 _ (ivals OUT) rfl rfl HR5.out (by rw [ivals_length, ivals_length, HOL.out]; rfl) (by rw [hi]; simp [hz1, ivals_length, HOL.out]) ivals_one ?_; intro w6 hR6 hg6 hs6; replace hR6 := Lib.hid hR6))
  refine bodyPost_ret (results_cell_row rfl _ _ R 97 (ivals OUT).toArray (0, 0) _ rfl hR6.out Tryd.underlying97 rfl (by rw [hi]; simp [hz1, ivals_length, HOL.out])) rfl ?_
  exact ⟨rfl, HB5.out.trans (below_of_grown hg6 (by have := HRD.out; omega) HB5.out.size)⟩

/-- What a hash function of the package answers: a slice that reads as the digest. -/
def Hashed (u : Nat) (out : List Int) (w : World) (E : Ending) (w' : World) : Prop :=
  ∃ g c, E = .returned (.slice (some ⟨g, 0, none⟩) u c) ∧ u ≤ c ∧ w.heap.size ≤ g ∧ Rd w' w'.heap.size (some ⟨g, 0, none⟩) u (ivals out) ∧ Below w.heap.size w w'

set_option maxRecDepth 1000000 in
set_option maxHeartbeats 4000000 in
theorem sha256Sum_any (A : Option Addr) (n c : Nat) (l : List Int) (K : Nat → Int) (r : Nat) (hr64 : r = 64) (w : World) (hr : Rd w w.heap.size A n (ivals l)) (hn0 : 0 < n) (hn : n ≤ 1024) (hnc : n ≤ c) (hK : KAt w K) (h7 : 7 < w.heap.size) :
    Calls Tryd.prog 58 #[.slice A n c] w (Hashed 32 (sha2 K r l) w) := by
  obtain ⟨i0, hi, hz0, hz1, hz2⟩ := info_parts info97
  obtain ⟨OUT, HOUT⟩ : ∃ OUT, Hid (OUT = sha2 K r l) := ⟨_, rfl⟩
  have HOL : Hid (OUT.length = 32) := by show _ = _; rw [HOUT.out, sha2_length]
  have CH := Lib.hid (sum256_any A n c l K r hr64 w hr hn0 hn hnc hK h7)
  rw [← HOUT.out] at CH ⊢
  clear hr hK h7
  go_enter Tryd.func58, Tryd.ntmps58
  go_wp2_with fail
  refine CH.out.mono ?_
  rintro E w1 ⟨rfl, hb1⟩
  have HB1 := Lib.hid hb1
  clear hb1
  go_wp2_with (first | (refine wpList_alloc_arr rfl 97 rfl _ i0 hi hz0 ?_; intro w2 R HR hR hb2 hs2; replace hR := Lib.hid hR; replace hb2 := Lib.hid hb2) | (refine wpList_store_blk rfl 97 (.tmp 3) (.tmp 5) rfl R 97 _ (ivals OUT) rfl rfl hR.out (by rw [ivals_length, ivals_length, HOL.out]; rfl) (by rw [hi]; simp [hz1, ivals_length, HOL.out]) ivals_one ?_; intro w3 hR3 hg3 hs3; replace hR3 := Lib.hid hR3))
  go_ret
  have hRw : w.heap.size ≤ R := by have h1 := HR.out; have h2 := HB1.out.size; omega
  have hb3 := HB1.out.trans (hb2.out.mono HB1.out.size)
  exact ⟨R, 32, rfl, Nat.le_refl _, hRw, (hR3.out.rd 32 (by rw [ivals_length, HOL.out])).more hR3.out.lt, hb3.trans (below_of_grown hg3 hRw hb3.size)⟩
end Go.Proofs.YtlnifplomlnoiaaDoor
