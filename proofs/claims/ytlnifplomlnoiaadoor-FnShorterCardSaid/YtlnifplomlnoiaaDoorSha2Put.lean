/- The library's BEPutUint32, BEPutUint64 onto a block that is known whole; the digest's parts in memory; Reset, New. -/
import Derived.Test.YtlnifplomlnoiaaDoorSha2Fn
import Derived.Test.YtlnifplomlnoiaaDoorSha1
namespace Go.Proofs.YtlnifplomlnoiaaDoor
open Go.RowKit

section
variable {s : S8} {x : List Int} {nx len : Int}
theorem dg_x {j : Nat} (hx : x.length = 64) (hj : j < 64) : (dg s x nx len)[8 + j]? = some (.int .u8 (x.getD j 0)) := by
  have e : (uvals (sl8 s)).length = 8 := rfl
  rw [dg, List.getElem?_append_right (by rw [e]; omega), e, Nat.add_sub_cancel_left, List.getElem?_append_left (by rw [ivals_length]; omega), ivals_get (by omega)]
theorem dg_nx (hx : x.length = 64) : (dg s x nx len)[72]? = some (.int .i64 nx) := by
  have e : (uvals (sl8 s)).length = 8 := rfl
  rw [dg, List.getElem?_append_right (by rw [e]; omega), e, List.getElem?_append_right (by rw [ivals_length]; omega), ivals_length, hx]
  rfl
theorem dg_len (hx : x.length = 64) : (dg s x nx len)[73]? = some (.int .u64 len) := by
  have e : (uvals (sl8 s)).length = 8 := rfl
  rw [dg, List.getElem?_append_right (by rw [e]; omega), e, List.getElem?_append_right (by rw [ivals_length]; omega), ivals_length, hx]
  rfl
theorem dg_224 (hx : x.length = 64) : (dg s x nx len)[74]? = some (.bool false) := by
  have e : (uvals (sl8 s)).length = 8 := rfl
  rw [dg, List.getElem?_append_right (by rw [e]; omega), e, List.getElem?_append_right (by rw [ivals_length]; omega), ivals_length, hx]
  rfl
theorem dg_set_nx (hx : x.length = 64) (v : Int) : (dg s x nx len).set 72 (.int .i64 v) = dg s x v len := by
  have e : (uvals (sl8 s)).length = 8 := rfl
  rw [dg, List.set_append_right _ _ (by rw [e]; omega), e, List.set_append_right _ _ (by rw [ivals_length]; omega), ivals_length, hx]
  rfl
theorem dg_set_len (hx : x.length = 64) (v : Int) : (dg s x nx len).set 73 (.int .u64 v) = dg s x nx v := by
  have e : (uvals (sl8 s)).length = 8 := rfl
  rw [dg, List.set_append_right _ _ (by rw [e]; omega), e, List.set_append_right _ _ (by rw [ivals_length]; omega), ivals_length, hx]
  rfl
theorem dg_length (hx : x.length = 64) : (dg s x nx len).length = 75 := by
  have e : (uvals (sl8 s)).length = 8 := rfl
  rw [dg, List.length_append, List.length_append, e, ivals_length, hx]
  rfl
end

def kInit : S8 := (1779033703, 3144134277, 1013904242, 2773480762, 1359893119, 2600822924, 528734635, 1541459225)
theorem info162 : (Tryd.prog.info? 162).map (fun i => (i.zero, i.size)) = some (some (.agg (dg (0, 0, 0, 0, 0, 0, 0, 0) (List.replicate 64 0) 0 0).toArray), 75) := by kernel_rfl

set_option maxRecDepth 100000 in
set_option maxHeartbeats 4000000 in
theorem reset_any (D : Nat) (s : S8) (x : List Int) (nx len : Int) (w : World) (hD : Blk w D 162 (dg s x nx len)) (hx : x.length = 64) :
    Calls Tryd.prog 103 #[.pointer (some ⟨D, 0, none⟩)] w fun E w' => E = .returned (.tuple #[]) ∧ Blk w' D 162 (dg kInit x 0 0) ∧ w.grownBy w' (some D) := by
  obtain ⟨a, b, c', d, e, f, g', hz⟩ := s
  have c0 : w.cell? ⟨D, 0, none⟩ = some (.int .u32 a) := by rw [hD.cell]; rfl
  have c1 : w.cell? ⟨D, 1, none⟩ = some (.int .u32 b) := by rw [hD.cell]; rfl
  have c2 : w.cell? ⟨D, 2, none⟩ = some (.int .u32 c') := by rw [hD.cell]; rfl
  have c3 : w.cell? ⟨D, 3, none⟩ = some (.int .u32 d) := by rw [hD.cell]; rfl
  have c4 : w.cell? ⟨D, 4, none⟩ = some (.int .u32 e) := by rw [hD.cell]; rfl
  have c5 : w.cell? ⟨D, 5, none⟩ = some (.int .u32 f) := by rw [hD.cell]; rfl
  have c6 : w.cell? ⟨D, 6, none⟩ = some (.int .u32 g') := by rw [hD.cell]; rfl
  have c7 : w.cell? ⟨D, 7, none⟩ = some (.int .u32 hz) := by rw [hD.cell]; rfl
  have c72 : w.cell? ⟨D, 72, none⟩ = some (.int .i64 nx) := by rw [hD.cell, dg_nx hx]
  have c73 : w.cell? ⟨D, 73, none⟩ = some (.int .u64 len) := by rw [hD.cell, dg_len hx]
  have c74 : w.cell? ⟨D, 74, none⟩ = some (.bool false) := by rw [hD.cell, dg_224 hx]
  have fr : ∀ i, w.frozen? ⟨D, i, none⟩ = false := fun i => hD.frozen i
  have z0 := fr 0
  have z1 := fr 1
  have z2 := fr 2
  have z3 := fr 3
  have z4 := fr 4
  have z5 := fr 5
  have z6 := fr 6
  have z7 := fr 7
  have z72 := fr 72
  have z73 := fr 73
  have HD := Lib.hid hD
  have HX := Lib.hid hx
  clear fr hD hx
  go_enter Tryd.func103, Tryd.ntmps103
  go_wp2_with fail
  go_end0
  refine ⟨rfl, ?_, ?_⟩
  · have h := ((((((((((HD.out.set_ 0 (.int .u32 1779033703)).set_ 1 (.int .u32 3144134277)).set_ 2 (.int .u32 1013904242)).set_ 3 (.int .u32 2773480762)).set_ 4 (.int .u32 1359893119)).set_ 5 (.int .u32 2600822924)).set_ 6 (.int .u32 528734635)).set_ 7 (.int .u32 1541459225)).set_ 72 (.int .i64 0)).set_ 73 (.int .u64 0))
    have e : ((((((((dg (a, b, c', d, e, f, g', hz) x nx len).set 0 (.int .u32 1779033703)).set 1 (.int .u32 3144134277)).set 2 (.int .u32 1013904242)).set 3 (.int .u32 2773480762)).set 4 (.int .u32 1359893119)).set 5 (.int .u32 2600822924)).set 6 (.int .u32 528734635)).set 7 (.int .u32 1541459225) = dg kInit x nx len := rfl
    rw [e, dg_set_nx HX.out, dg_set_len HX.out] at h
    exact h
  · exact grown_setCell (grown_setCell (grown_setCell (grown_setCell (grown_setCell (grown_setCell (grown_setCell (grown_setCell (grown_setCell (grown_setCell (World.grownBy.refl w _) _ _) _ _) _ _) _ _) _ _) _ _) _ _) _ _) _ _) _ _

set_option maxRecDepth 100000 in
set_option maxHeartbeats 4000000 in
theorem fipsNew_any (w : World) : Calls Tryd.prog 98 #[] w fun E w' => ∃ D, E = .returned (.pointer (some ⟨D, 0, none⟩)) ∧ Hid (w.heap.size ≤ D) ∧ Blk w' D 162 (dg kInit (List.replicate 64 0) 0 0) ∧ Below w.heap.size w w' := by
  obtain ⟨i0, hi, hp⟩ : ∃ i0, Tryd.prog.info? 162 = some i0 ∧ (i0.zero, i0.size) = (some (.agg (dg (0, 0, 0, 0, 0, 0, 0, 0) (List.replicate 64 0) 0 0).toArray), 75) := by
    have h := info162
    cases hq : Tryd.prog.info? 162 with
    | none => rw [hq] at h; cases h
    | some i0 => rw [hq] at h; exact ⟨i0, rfl, Option.some.inj h⟩
  have hz0 : i0.zero = some (.agg (dg (0, 0, 0, 0, 0, 0, 0, 0) (List.replicate 64 0) 0 0).toArray) := congrArg Prod.fst hp
  clear hp
  go_enter Tryd.func98, Tryd.ntmps98
  go_wp2_with (refine wpList_alloc_arr rfl 162 rfl _ i0 hi hz0 ?_; intro w1 D HD hD hb1 hs1)
  refine (reset_any D _ _ 0 0 w1 hD (by simp)).mono ?_
  rintro E w2 ⟨rfl, hD2, hg2⟩
  go_wp2_with fail
  go_ret
  exact ⟨D, rfl, by show _ ≤ _; rw [HD.out]; exact Nat.le_refl _, hD2, hb1.trans (below_of_grown hg2 (by rw [HD.out]; exact Nat.le_refl _) hb1.size)⟩
end Go.Proofs.YtlnifplomlnoiaaDoor
