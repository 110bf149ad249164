/- binary.BigEndian.Uint32, AppendUint32, AppendUint64: whole numbers and bytes, the highest first. The slice that is read has at least four places; the one that is appended to is the call's own. -/
import Derived.Test.YtlnifplomlnoiaaDoorBits64
import Derived.Test.YtlnifplomlnoiaaDoorAppend
import Derived.Test.YtlnifplomlnoiaaDoorFew
namespace Go.Proofs.YtlnifplomlnoiaaDoor
open Go.RowKit

theorem info5b : (Tryd.prog.info? 5).map (fun i => (i.zero, i.size, i.bytes)) = some (some (.int .u8 0), 1, 1) := by kernel_rfl

/-- A word of four bytes, the highest first. -/
def beW (b0 b1 b2 b3 : Int) : Int :=
  bits .or .u32 (bits .or .u32 (bits .or .u32 (IntKind.u32.wrap b3) (IntKind.u32.wrap (IntKind.u32.wrap b2 * 256))) (IntKind.u32.wrap (IntKind.u32.wrap b1 * 65536))) (IntKind.u32.wrap (IntKind.u32.wrap b0 * 16777216))
/-- A word's four bytes, the highest first. -/
def be4 (x : Int) : List Int := [x / 16777216 % 256, x / 65536 % 256, x / 256 % 256, x % 256]
def be8 (x : Int) : List Int := [x / 72057594037927936 % 256, x / 281474976710656 % 256, x / 1099511627776 % 256, x / 4294967296 % 256,
  x / 16777216 % 256, x / 65536 % 256, x / 256 % 256, x % 256]

set_option maxRecDepth 100000 in
set_option maxHeartbeats 1000000 in
theorem beUint32_any (g o n c : Nat) (b0 b1 b2 b3 : Int) (w : World) (hn : 4 ≤ n) (c0 : w.cell? ⟨g, o, none⟩ = some (.int .u8 b0)) (c1 : w.cell? ⟨g, o + 1, none⟩ = some (.int .u8 b1)) (c2 : w.cell? ⟨g, o + 2, none⟩ = some (.int .u8 b2)) (c3 : w.cell? ⟨g, o + 3, none⟩ = some (.int .u8 b3)) :
    Calls Tryd.prog 83 #[.agg #[], .slice (some ⟨g, o, none⟩) n c] w fun e w' => e = .returned (.int .u32 (beW b0 b1 b2 b3)) ∧ Below w.heap.size w w' := by
  have lt := World.block_lt_of_cell? w _ c0
  have n0 : 0 < n := by omega
  have i0 : (0 : Int) < (n : Int) := by omega
  have i1 : (1 : Int) < (n : Int) := by omega
  have i2 : (2 : Int) < (n : Int) := by omega
  have i3 : (3 : Int) < (n : Int) := by omega
  go_enter Tryd.func83, Tryd.ntmps83
  go_wp2_with fail
  go_quiet (fail)
  go_wp2_with fail
  go_ret
  exact ⟨rfl, below_drewN ((Below.refl _ _).alloc (Nat.le_refl _) _) _⟩

theorem ivals_one {l : List Int} : ∀ u ∈ ivals l, u.oneCell' = true := by
  intro u hu
  simp only [ivals, List.mem_map] at hu
  obtain ⟨b, _, rfl⟩ := hu
  rfl

set_option maxRecDepth 100000 in
set_option maxHeartbeats 1000000 in
theorem beAppend32_any (B n : Nat) (sv : Value) (xs : List Value) (x : Int) (w : World) (ho : w.ownsRow B 5 1 sv n xs) (hB : B ≤ w.heap.size) (hn : n ≤ 1099511627776) :
    Calls Tryd.prog 85 #[.agg #[], sv, .int .u32 x] w fun e w' => ∃ v, e = .returned v ∧ w'.ownsRow B 5 1 v (n + 4) (xs ++ ivals (be4 x)) ∧ Below B w w' := by
  obtain ⟨j0, hj, hy0, hy1, hy2⟩ := info_parts info5b
  have HO := Lib.hid ho
  clear ho
  go_enter Tryd.func85, Tryd.ntmps85
  go_wp2_with (at_builtin; refine wpList_append_rd _ rfl _ _ 22 rfl B 5 j0 (.int .u8 0) 1 Tryd.underlying22 hj hy0 hy1 hy2 rfl sv n xs rfl ((HO.out.alloc _).alloc _) (w.heap.size + 2) _ 4 4 (ivals (be4 x)) rfl (by have h := rd_new (w.alloc (.cells #[] 120)) (ivals (be4 x)).toArray 5 4 rfl; simpa [be4, ivals] using h) ivals_one (by omega) (by unfold maxLen; omega) (by simp; omega) ?_; intro v' w2 hap; replace hap := Lib.hid hap)
  go_ret
  refine ⟨v', rfl, hap.out.own, hap.out.below (((Below.refl _ _).alloc hB _).alloc (by simp; omega) _) ((HO.out.alloc _).alloc _) (by simp; omega)⟩

set_option maxRecDepth 100000 in
set_option maxHeartbeats 1000000 in
theorem beAppend64_any (B n : Nat) (sv : Value) (xs : List Value) (x : Int) (w : World) (ho : w.ownsRow B 5 1 sv n xs) (hB : B ≤ w.heap.size) (hn : n ≤ 1099511627776) :
    Calls Tryd.prog 88 #[.agg #[], sv, .int .u64 x] w fun e w' => ∃ v, e = .returned v ∧ w'.ownsRow B 5 1 v (n + 8) (xs ++ ivals (be8 x)) ∧ Below B w w' := by
  obtain ⟨j0, hj, hy0, hy1, hy2⟩ := info_parts info5b
  have HO := Lib.hid ho
  clear ho
  go_enter Tryd.func88, Tryd.ntmps88
  go_wp2_with (at_builtin; refine wpList_append_rd _ rfl _ _ 22 rfl B 5 j0 (.int .u8 0) 1 Tryd.underlying22 hj hy0 hy1 hy2 rfl sv n xs rfl ((HO.out.alloc _).alloc _) (w.heap.size + 2) _ 8 8 (ivals (be8 x)) rfl (by have h := rd_new (w.alloc (.cells #[] 120)) (ivals (be8 x)).toArray 5 8 rfl; simpa [be8, ivals] using h) ivals_one (by omega) (by unfold maxLen; omega) (by simp; omega) ?_; intro v' w2 hap; replace hap := Lib.hid hap)
  go_ret
  refine ⟨v', rfl, hap.out.own, hap.out.below (((Below.refl _ _).alloc hB _).alloc (by simp; omega) _) ((HO.out.alloc _).alloc _) (by simp; omega)⟩
end Go.Proofs.YtlnifplomlnoiaaDoor
