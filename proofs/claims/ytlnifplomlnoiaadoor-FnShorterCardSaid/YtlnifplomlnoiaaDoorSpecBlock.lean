/- spec.blockOf: four words as eight bytes. -/
import Derived.Test.YtlnifplomlnoiaaDoorSpecWords
import Derived.Test.YtlnifplomlnoiaaDoorAppend
namespace Go.Proofs.YtlnifplomlnoiaaDoor
open Go.RowKit

def two (x : Int) : List Int := [x % 256, x / 256]
theorem block_two (a b c d : Int) : block (a, b, c, d) = two a ++ two b ++ two c ++ two d := rfl
def partBytes (a b c d : Int) : Nat → List Int
  | 0 => []
  | 1 => two a
  | 2 => two a ++ two b
  | 3 => two a ++ two b ++ two c
  | _ => two a ++ two b ++ two c ++ two d
theorem ivals_append (l m : List Int) : ivals (l ++ m) = ivals l ++ ivals m := by simp [ivals]

theorem index57 (a b c d : Int) : ∀ (i : Fin 4) (w : World), (Instr.index 57 (.agg #[.int .i64 a, .int .i64 b, .int .i64 c, .int .i64 d]) (.int .i64 (i.val : Int))).run Tryd.prog w = .ok (.int .i64 (match i with | 0 => a | 1 => b | 2 => c | 3 => d)) w
  | 0, w => by kernel_rfl
  | 1, w => by kernel_rfl
  | 2, w => by kernel_rfl
  | 3, w => by kernel_rfl

set_option maxRecDepth 1000000 in
set_option maxHeartbeats 4000000 in
theorem blockOf_any (a b c d : Int) (w : World) (hs : Ok4 (a, b, c, d)) :
    Calls Tryd.prog 36 #[.agg (rvals (a, b, c, d)).toArray] w fun E w' => ∃ v, E = .returned v ∧ w'.ownsRow w.heap.size 5 1 v 8 (ivals (block (a, b, c, d))) ∧ Below w.heap.size w w' := by
  obtain ⟨j0, hj, hy0, hy1, hy2⟩ := info_parts info5e
  obtain ⟨ha, hb, hc, hd⟩ := hs
  simp only at ha hb hc hd
  show Calls Tryd.prog 36 #[.agg #[.int .i64 a, .int .i64 b, .int .i64 c, .int .i64 d]] w _
  go_enter Tryd.func36, Tryd.ntmps36
  have ix0 : ∀ w, (Instr.index 57 (.agg #[.int .i64 a, .int .i64 b, .int .i64 c, .int .i64 d]) (.int .i64 0)).run Tryd.prog w = .ok (.int .i64 a) w := fun w => index57 a b c d 0 w
  have ix1 : ∀ w, (Instr.index 57 (.agg #[.int .i64 a, .int .i64 b, .int .i64 c, .int .i64 d]) (.int .i64 1)).run Tryd.prog w = .ok (.int .i64 b) w := fun w => index57 a b c d 1 w
  have ix2 : ∀ w, (Instr.index 57 (.agg #[.int .i64 a, .int .i64 b, .int .i64 c, .int .i64 d]) (.int .i64 2)).run Tryd.prog w = .ok (.int .i64 c) w := fun w => index57 a b c d 2 w
  have ix3 : ∀ w, (Instr.index 57 (.agg #[.int .i64 a, .int .i64 b, .int .i64 c, .int .i64 d]) (.int .i64 3)).run Tryd.prog w = .ok (.int .i64 d) w := fun w => index57 a b c d 3 w
  have ea : (a / 256) % 256 = a / 256 := by omega
  have eb : (b / 256) % 256 = b / 256 := by omega
  have ec : (c / 256) % 256 = c / 256 := by omega
  have ed : (d / 256) % 256 = d / 256 := by omega
  go_wp2_with fail
  go_loopw [3, 8] (fun v jj wr => ∃ j : Nat, j ≤ 4 ∧ jj = .int .i64 (j : Int) ∧ Hid (wr.ownsRow w.heap.size 5 1 v (2 * j) (ivals (partBytes a b c d j))) ∧ Hid (Below w.heap.size w wr)) (fun _ jj _ => 4 - (intOf jj).toNat)
  case atStart =>
    refine ⟨0, by omega, rfl, ?_, ((Below.refl _ _).alloc (Nat.le_refl _) _).alloc (by simp) _⟩
    have h := World.ownsRow_made (w.alloc (.cells #[.int .i64 a, .int .i64 b, .int .i64 c, .int .i64 d] 57)) (base := w.heap.size) (e := 5) (size := 1) #[] 0 (by simp) (by unfold maxLen; omega) rfl
    show World.ownsRow _ _ _ _ _ _ _
    simpa [partBytes, ivals] using h
  case round =>
    obtain ⟨j, hj4, rfl, ho, hbw⟩ := hrel
    by_cases hlt : j < 4
    · have h : j = 0 ∨ j = 1 ∨ j = 2 ∨ j = 3 := by omega
      rcases h with rfl | rfl | rfl | rfl
      · go_wp2_with (at_builtin; refine wpList_append_rd _ rfl _ _ 22 rfl w.heap.size 5 j0 (.int .u8 0) 1 Tryd.underlying22 hj hy0 hy1 hy2 rfl _ 0 (ivals (partBytes a b c d 0)) rfl (ho.out.alloc _) (wr.heap.size + 1) _ 2 2 [.int .u8 (a % 256), .int .u8 (a / 256)] rfl (rd_new wr #[.int .u8 (a % 256), .int .u8 (a / 256)] 5 2 rfl) (by intro u hu; simp at hu; rcases hu with rfl | rfl <;> rfl) (by omega) (by unfold maxLen; omega) (by have := hbw.out.size; simp; omega) ?_; intro v' w2 hap; replace hap := Lib.hid hap)
        go_roundw
        case rel =>
          refine ⟨1, by omega, by go_num, ?_, ?_⟩
          · have h := hap.out.own
            have e : ivals (partBytes a b c d 1) = ivals (partBytes a b c d 0) ++ [.int .u8 (a % 256), .int .u8 (a / 256)] := rfl
            show World.ownsRow _ _ _ _ _ _ _
            rw [e]
            exact h
          · exact hap.out.below (hbw.out.alloc hbw.out.size _) (ho.out.alloc _) (by have := hbw.out.size; simp; omega)
        case measure => simp [intOf]
      · go_wp2_with (at_builtin; refine wpList_append_rd _ rfl _ _ 22 rfl w.heap.size 5 j0 (.int .u8 0) 1 Tryd.underlying22 hj hy0 hy1 hy2 rfl _ 2 (ivals (partBytes a b c d 1)) rfl (ho.out.alloc _) (wr.heap.size + 1) _ 2 2 [.int .u8 (b % 256), .int .u8 (b / 256)] rfl (rd_new wr #[.int .u8 (b % 256), .int .u8 (b / 256)] 5 2 rfl) (by intro u hu; simp at hu; rcases hu with rfl | rfl <;> rfl) (by omega) (by unfold maxLen; omega) (by have := hbw.out.size; simp; omega) ?_; intro v' w2 hap; replace hap := Lib.hid hap)
        go_roundw
        case rel =>
          refine ⟨2, by omega, by go_num, ?_, ?_⟩
          · have h := hap.out.own
            have e : ivals (partBytes a b c d 2) = ivals (partBytes a b c d 1) ++ [.int .u8 (b % 256), .int .u8 (b / 256)] := rfl
            show World.ownsRow _ _ _ _ _ _ _
            rw [e]
            exact h
          · exact hap.out.below (hbw.out.alloc hbw.out.size _) (ho.out.alloc _) (by have := hbw.out.size; simp; omega)
        case measure => simp [intOf]
      · go_wp2_with (at_builtin; refine wpList_append_rd _ rfl _ _ 22 rfl w.heap.size 5 j0 (.int .u8 0) 1 Tryd.underlying22 hj hy0 hy1 hy2 rfl _ 4 (ivals (partBytes a b c d 2)) rfl (ho.out.alloc _) (wr.heap.size + 1) _ 2 2 [.int .u8 (c % 256), .int .u8 (c / 256)] rfl (rd_new wr #[.int .u8 (c % 256), .int .u8 (c / 256)] 5 2 rfl) (by intro u hu; simp at hu; rcases hu with rfl | rfl <;> rfl) (by omega) (by unfold maxLen; omega) (by have := hbw.out.size; simp; omega) ?_; intro v' w2 hap; replace hap := Lib.hid hap)
        go_roundw
        case rel =>
          refine ⟨3, by omega, by go_num, ?_, ?_⟩
          · have h := hap.out.own
            have e : ivals (partBytes a b c d 3) = ivals (partBytes a b c d 2) ++ [.int .u8 (c % 256), .int .u8 (c / 256)] := rfl
            show World.ownsRow _ _ _ _ _ _ _
            rw [e]
            exact h
          · exact hap.out.below (hbw.out.alloc hbw.out.size _) (ho.out.alloc _) (by have := hbw.out.size; simp; omega)
        case measure => simp [intOf]
      · go_wp2_with (at_builtin; refine wpList_append_rd _ rfl _ _ 22 rfl w.heap.size 5 j0 (.int .u8 0) 1 Tryd.underlying22 hj hy0 hy1 hy2 rfl _ 6 (ivals (partBytes a b c d 3)) rfl (ho.out.alloc _) (wr.heap.size + 1) _ 2 2 [.int .u8 (d % 256), .int .u8 (d / 256)] rfl (rd_new wr #[.int .u8 (d % 256), .int .u8 (d / 256)] 5 2 rfl) (by intro u hu; simp at hu; rcases hu with rfl | rfl <;> rfl) (by omega) (by unfold maxLen; omega) (by have := hbw.out.size; simp; omega) ?_; intro v' w2 hap; replace hap := Lib.hid hap)
        go_roundw
        case rel =>
          refine ⟨4, by omega, by go_num, ?_, ?_⟩
          · have h := hap.out.own
            have e : ivals (partBytes a b c d 4) = ivals (partBytes a b c d 3) ++ [.int .u8 (d % 256), .int .u8 (d / 256)] := rfl
            show World.ownsRow _ _ _ _ _ _ _
            rw [e]
            exact h
          · exact hap.out.below (hbw.out.alloc hbw.out.size _) (ho.out.alloc _) (by have := hbw.out.size; simp; omega)
        case measure => simp [intOf]
    · have hj0 : j = 4 := by omega
      subst hj0
      go_wp2_with fail
      go_ret
      exact ⟨_, rfl, ho.out, hbw.out⟩
end Go.Proofs.YtlnifplomlnoiaaDoor
