/- The library's BEPutUint32, BEPutUint64, onto a block that is known whole: four (eight) cells turn. -/
import Derived.Test.YtlnifplomlnoiaaDoorSha2Put
namespace Go.Proofs.YtlnifplomlnoiaaDoor
open Go.RowKit

def set4 (cs : List Value) (o : Nat) (v : Int) : List Value := (((cs.set o (.int .u8 (v / 16777216 % 256))).set (o + 1) (.int .u8 (v / 65536 % 256))).set (o + 2) (.int .u8 (v / 256 % 256))).set (o + 3) (.int .u8 (v % 256))
def set8 (cs : List Value) (o : Nat) (v : Int) : List Value :=
  (((((((cs.set o (.int .u8 (v / 72057594037927936 % 256))).set (o + 1) (.int .u8 (v / 281474976710656 % 256))).set (o + 2) (.int .u8 (v / 1099511627776 % 256))).set (o + 3) (.int .u8 (v / 4294967296 % 256))).set (o + 4) (.int .u8 (v / 16777216 % 256))).set (o + 5) (.int .u8 (v / 65536 % 256))).set (o + 6) (.int .u8 (v / 256 % 256))).set (o + 7) (.int .u8 (v % 256))

set_option maxRecDepth 100000 in
set_option maxHeartbeats 4000000 in
theorem put32_any (g o n c : Nat) (t : TypeId) (cs : List Value) (v : Int) (w : World) (hn : 4 ≤ n) (hb : Blk w g t cs) (ho : o + 3 < cs.length) :
    Calls Tryd.prog 147 #[.slice (some ⟨g, o, none⟩) n c, .int .u32 v] w fun E w' => E = .returned (.tuple #[]) ∧ Blk w' g t (set4 cs o v) ∧ w.grownBy w' (some g) := by
  have lt := hb.lt
  have n0 : 0 < n := by omega
  have i0 : (0 : Int) < (n : Int) := by omega
  have i1 : (1 : Int) < (n : Int) := by omega
  have i2 : (2 : Int) < (n : Int) := by omega
  have i3 : (3 : Int) < (n : Int) := by omega
  have there : ∀ j, j < cs.length → ∃ x, w.cell? ⟨g, j, none⟩ = some x := fun j hj => ⟨_, (hb.cell j).trans (List.getElem?_eq_getElem hj)⟩
  obtain ⟨x0, c0⟩ := there o (by omega)
  obtain ⟨x1, c1⟩ := there (o + 1) (by omega)
  obtain ⟨x2, c2⟩ := there (o + 2) (by omega)
  obtain ⟨x3, c3⟩ := there (o + 3) (by omega)
  have f0 : w.frozen? ⟨g, o, none⟩ = false := hb.frozen _
  have f1 : w.frozen? ⟨g, o + 1, none⟩ = false := hb.frozen _
  have f2 : w.frozen? ⟨g, o + 2, none⟩ = false := hb.frozen _
  have f3 : w.frozen? ⟨g, o + 3, none⟩ = false := hb.frozen _
  have HB := Lib.hid hb
  clear hb there
  go_enter Tryd.func147, Tryd.ntmps147
  go_wp2_with fail
  go_end0
  exact ⟨rfl, (((HB.out.set_ o _).set_ (o + 1) _).set_ (o + 2) _).set_ (o + 3) _, grown_setCell (grown_setCell (grown_setCell (grown_setCell (World.grownBy.refl w _) _ _) _ _) _ _) _ _⟩

set_option maxRecDepth 100000 in
set_option maxHeartbeats 4000000 in
theorem put64_any (g o n c : Nat) (t : TypeId) (cs : List Value) (v : Int) (w : World) (hn : 8 ≤ n) (hb : Blk w g t cs) (ho : o + 7 < cs.length) :
    Calls Tryd.prog 146 #[.slice (some ⟨g, o, none⟩) n c, .int .u64 v] w fun E w' => E = .returned (.tuple #[]) ∧ Blk w' g t (set8 cs o v) ∧ w.grownBy w' (some g) := by
  have lt := hb.lt
  have n0 : 0 < n := by omega
  have i0 : (0 : Int) < (n : Int) := by omega
  have i1 : (1 : Int) < (n : Int) := by omega
  have i2 : (2 : Int) < (n : Int) := by omega
  have i3 : (3 : Int) < (n : Int) := by omega
  have i4 : (4 : Int) < (n : Int) := by omega
  have i5 : (5 : Int) < (n : Int) := by omega
  have i6 : (6 : Int) < (n : Int) := by omega
  have i7 : (7 : Int) < (n : Int) := by omega
  have there : ∀ j, j < cs.length → ∃ x, w.cell? ⟨g, j, none⟩ = some x := fun j hj => ⟨_, (hb.cell j).trans (List.getElem?_eq_getElem hj)⟩
  obtain ⟨x0, c0⟩ := there o (by omega)
  obtain ⟨x1, c1⟩ := there (o + 1) (by omega)
  obtain ⟨x2, c2⟩ := there (o + 2) (by omega)
  obtain ⟨x3, c3⟩ := there (o + 3) (by omega)
  obtain ⟨x4, c4⟩ := there (o + 4) (by omega)
  obtain ⟨x5, c5⟩ := there (o + 5) (by omega)
  obtain ⟨x6, c6⟩ := there (o + 6) (by omega)
  obtain ⟨x7, c7⟩ := there (o + 7) (by omega)
  have f0 : w.frozen? ⟨g, o, none⟩ = false := hb.frozen _
  have f1 : w.frozen? ⟨g, o + 1, none⟩ = false := hb.frozen _
  have f2 : w.frozen? ⟨g, o + 2, none⟩ = false := hb.frozen _
  have f3 : w.frozen? ⟨g, o + 3, none⟩ = false := hb.frozen _
  have f4 : w.frozen? ⟨g, o + 4, none⟩ = false := hb.frozen _
  have f5 : w.frozen? ⟨g, o + 5, none⟩ = false := hb.frozen _
  have f6 : w.frozen? ⟨g, o + 6, none⟩ = false := hb.frozen _
  have f7 : w.frozen? ⟨g, o + 7, none⟩ = false := hb.frozen _
  have HB := Lib.hid hb
  clear hb there
  go_enter Tryd.func146, Tryd.ntmps146
  go_wp2_with fail
  go_end0
  exact ⟨rfl, (((((((HB.out.set_ o _).set_ (o + 1) _).set_ (o + 2) _).set_ (o + 3) _).set_ (o + 4) _).set_ (o + 5) _).set_ (o + 6) _).set_ (o + 7) _,
    grown_setCell (grown_setCell (grown_setCell (grown_setCell (grown_setCell (grown_setCell (grown_setCell (grown_setCell (World.grownBy.refl w _) _ _) _ _) _ _) _ _) _ _) _ _) _ _) _ _⟩

set_option maxHeartbeats 1000000 in
theorem depsPut32_any (g o n c : Nat) (t : TypeId) (cs : List Value) (v : Int) (w : World) (hn : 4 ≤ n) (hb : Blk w g t cs) (ho : o + 3 < cs.length) :
    Calls Tryd.prog 144 #[.slice (some ⟨g, o, none⟩) n c, .int .u32 v] w fun E w' => E = .returned (.tuple #[]) ∧ Blk w' g t (set4 cs o v) ∧ w.grownBy w' (some g) := by
  go_enter Tryd.func144, Tryd.ntmps144
  go_wp2_with fail
  refine (put32_any g o n c t cs v w hn hb ho).mono ?_
  rintro E w2 ⟨rfl, h1, h2⟩
  go_wp2_with fail
  go_end0
  exact ⟨rfl, h1, h2⟩

set_option maxHeartbeats 1000000 in
theorem depsPut64_any (g o n c : Nat) (t : TypeId) (cs : List Value) (v : Int) (w : World) (hn : 8 ≤ n) (hb : Blk w g t cs) (ho : o + 7 < cs.length) :
    Calls Tryd.prog 143 #[.slice (some ⟨g, o, none⟩) n c, .int .u64 v] w fun E w' => E = .returned (.tuple #[]) ∧ Blk w' g t (set8 cs o v) ∧ w.grownBy w' (some g) := by
  go_enter Tryd.func143, Tryd.ntmps143
  go_wp2_with fail
  refine (put64_any g o n c t cs v w hn hb ho).mono ?_
  rintro E w2 ⟨rfl, h1, h2⟩
  go_wp2_with fail
  go_end0
  exact ⟨rfl, h1, h2⟩

set_option maxRecDepth 100000 in
set_option maxHeartbeats 1000000 in
theorem recordApproved_any (w : World) : Calls Tryd.prog 138 #[] w fun E w' => E = .returned (.tuple #[]) ∧ w = w' := by
  have e1 : ∀ w, (callFunc 141 #[]).run Tryd.prog w = .ok (.value (.int .u8 0)) w := fun w => by kernel_rfl
  have e2 : ∀ w, (callFunc 142 #[.int .u8 2]).run Tryd.prog w = .ok (.value (.tuple #[])) w := fun w => by kernel_rfl
  go_enter Tryd.func138, Tryd.ntmps138
  go_wp2_with fail
  go_end0
  exact ⟨rfl, rfl⟩

set_option maxHeartbeats 1000000 in
theorem shaNew_any (w : World) : Calls Tryd.prog 87 #[] w fun E w' => ∃ D, E = .returned (.iface 146 (.pointer (some ⟨D, 0, none⟩))) ∧ Hid (w.heap.size ≤ D) ∧ Blk w' D 162 (dg kInit (List.replicate 64 0) 0 0) ∧ Below w.heap.size w w' := by
  go_enter Tryd.func87, Tryd.ntmps87
  go_wp2_with fail
  refine (fipsNew_any w).mono ?_
  rintro E w2 ⟨D, rfl, HD, h1, h2⟩
  go_wp2_with fail
  go_ret
  exact ⟨D, rfl, HD, h1, h2⟩
end Go.Proofs.YtlnifplomlnoiaaDoor
