/- binary.LittleEndian.Uint16 and PutUint16: two bytes, the lowest first. The slice has at least two places. -/
import Derived.Test.YtlnifplomlnoiaaDoorBase
import Derived.Test.YtlnifplomlnoiaaDoorProg
import Derived.Test.YtlnifplomlnoiaaDoorW16
namespace Go.Proofs.YtlnifplomlnoiaaDoor
open Go.RowKit

/-- A block that is known whole, none of its cells frozen. -/
def Blk (w : World) (g : Nat) (t : TypeId) (cs : List Value) : Prop := w.heap[g]? = some (.cells cs.toArray t (0, 0))
section
variable {w w' : World} {g : Nat} {t : TypeId} {cs : List Value}
theorem Blk.lt (h : Blk w g t cs) : g < w.heap.size := (Array.getElem?_eq_some_iff.1 h).1
theorem Blk.cell (h : Blk w g t cs) (i : Nat) : w.cell? ⟨g, i, none⟩ = cs[i]? := by
  rw [cell_of_row w g i cs.toArray t (0, 0) h]; simp
theorem Blk.frozen (h : Blk w g t cs) (i : Nat) : w.frozen? ⟨g, i, none⟩ = false := frozen_of_row w g i cs.toArray t h
theorem Blk.new (w : World) (t : TypeId) (cs : List Value) : Blk (w.alloc (.cells cs.toArray t)) w.heap.size t cs := heap_alloc_new w _
theorem Blk.drewN (h : Blk w g t cs) (n : Nat) : Blk (w.drewN n) g t cs := h
theorem Blk.alloc (h : Blk w g t cs) (o : Obj) : Blk (w.alloc o) g t cs := (Below.heap_alloc w o g h.lt).trans h
theorem Blk.set_ (h : Blk w g t cs) (i : Nat) (u : Value) : Blk (w.setCell ⟨g, i, none⟩ u) g t (cs.set i u) := by
  unfold Blk at h ⊢
  simp [World.setCell, Array.getElem?_modify, h]
theorem Blk.far (h : Blk w g t cs) {p : Addr} (hp : g ≠ p.block) (u : Value) : Blk (w.setCell p u) g t cs := (Below.heap_setCell w p u g hp).trans h
theorem Blk.below {B : Nat} (h : Blk w g t cs) (hb : Below B w w') (hg : g < B) : Blk w' g t cs := (hb.block g hg).trans h
theorem Blk.grown {row : Option Nat} (h : Blk w g t cs) (hb : w.grownBy w' row) (hg : some g ≠ row) : Blk w' g t cs := (hb.block g h.lt hg).trans h
theorem Blk.rd (h : Blk w g t cs) (n : Nat) (hn : cs.length = n) : Rd w (g + 1) (some ⟨g, 0, none⟩) n cs :=
  ⟨hn, fun _ => ⟨g, 0, rfl, by omega, fun j u hu => by rw [h.cell, Nat.zero_add]; exact hu⟩⟩
end

set_option maxHeartbeats 1000000 in
theorem uint16_any (g o n c : Nat) (a b : Int) (w : World) (hn : 2 ≤ n) (ca : w.cell? ⟨g, o, none⟩ = some (.int .u8 a)) (cb : w.cell? ⟨g, o + 1, none⟩ = some (.int .u8 b)) (ha0 : 0 ≤ a) (ha1 : a ≤ 255) (hb0 : 0 ≤ b) (hb1 : b ≤ 255) :
    Calls Tryd.prog 125 #[.agg #[], .slice (some ⟨g, o, none⟩) n c] w fun e w' => e = .returned (.int .u16 (a + 256 * b)) ∧ Below w.heap.size w w' := by
  have lt := World.block_lt_of_cell? w _ ca
  have n0 : 0 < n := by omega
  have n1 : 1 < n := by omega
  have i0 : (0 : Int) < (n : Int) := by omega
  have i1 : (1 : Int) < (n : Int) := by omega
  have ew : IntKind.u16.wrap (b * 256) = b * 256 := IntWalk.u16_in _ (by omega)
  have ea : IntKind.u16.wrap a = a := IntWalk.u16_in _ (by omega)
  have eb : IntKind.u16.wrap b = b := IntWalk.u16_in _ (by omega)
  have eo : bits .or .u16 a (b * 256) = a + 256 * b := by
    rw [bits_or_comm, bits_join .u16 16 (by decide) wraps_u16 8 _ _ (by omega) (by omega) (by omega) (by omega) (by omega) (by omega)]
    omega
  go_enter Tryd.func125, Tryd.ntmps125
  go_wp2_with fail
  go_quiet (fail)
  go_wp2_with fail
  go_ret
  exact ⟨rfl, below_drewN ((Below.refl _ _).alloc (Nat.le_refl _) _) _⟩

/-- What PutUint16 leaves: the two bytes, and nothing else turned below and beside. -/
def Put2 (g o : Nat) (t : TypeId) (cs : List Value) (v : Int) (w : World) (E : Ending) (w' : World) : Prop :=
  E = .returned (.tuple #[]) ∧ Blk w' g t ((cs.set o (.int .u8 (v % 256))).set (o + 1) (.int .u8 (v / 256))) ∧ w.grownBy w' (some g)

theorem grown_setCell {w w' : World} {g : Nat} (h : w.grownBy w' (some g)) (i : Nat) (u : Value) : w.grownBy (w'.setCell ⟨g, i, none⟩ u) (some g) :=
  ⟨h.os, h.tape, h.output, by simpa [World.setCell] using h.size, fun k hk hne => (Below.heap_setCell w' ⟨g, i, none⟩ u k (fun e => hne (by rw [e]))).trans (h.block k hk hne)⟩

theorem grown_alloc {w w' : World} {row : Option Nat} (h : w.grownBy w' row) (o : Obj) : w.grownBy (w'.alloc o) row :=
  ⟨h.os, h.tape, h.output, Nat.le_trans h.size (by simp), fun i hi hne => (Below.heap_alloc w' o i (Nat.lt_of_lt_of_le hi h.size)).trans (h.block i hi hne)⟩
theorem grown_drewN {w w' : World} {row : Option Nat} (h : w.grownBy w' row) (n : Nat) : w.grownBy (w'.drewN n) row := ⟨h.os, h.tape, h.output, h.size, h.block⟩
theorem grown_below {w w' w2 : World} {row : Option Nat} (h : w.grownBy w' row) (hb : Below w'.heap.size w' w2) : w.grownBy w2 row :=
  ⟨hb.os.trans h.os, hb.tape.trans h.tape, hb.output.trans h.output, Nat.le_trans h.size hb.size, fun i hi hne => (hb.block i (Nat.lt_of_lt_of_le hi h.size)).trans (h.block i hi hne)⟩
theorem below_grown {w w' : World} (h : Below w.heap.size w w') (row : Option Nat) : w.grownBy w' row := ⟨h.os, h.tape, h.output, h.size, fun i hi _ => h.block i hi⟩

set_option maxHeartbeats 1000000 in
theorem putUint16_any (g o n c : Nat) (t : TypeId) (cs : List Value) (v : Int) (w : World) (hn : 2 ≤ n) (hb : Blk w g t cs) (ho : o + 1 < cs.length) (h0 : 0 ≤ v) (h1 : v ≤ 65535) :
    Calls Tryd.prog 127 #[.agg #[], .slice (some ⟨g, o, none⟩) n c, .int .u16 v] w (Put2 g o t cs v w) := by
  have lt := hb.lt
  have n0 : 0 < n := by omega
  have n1 : 1 < n := by omega
  have i0 : (0 : Int) < (n : Int) := by omega
  have i1 : (1 : Int) < (n : Int) := by omega
  obtain ⟨x0, hx0⟩ : ∃ x0, cs[o]? = some x0 := ⟨_, List.getElem?_eq_getElem (by omega)⟩
  obtain ⟨x1, hx1⟩ : ∃ x1, cs[o + 1]? = some x1 := ⟨_, List.getElem?_eq_getElem ho⟩
  have c0 : w.cell? ⟨g, o, none⟩ = some x0 := (hb.cell o).trans hx0
  have c1 : w.cell? ⟨g, o + 1, none⟩ = some x1 := (hb.cell (o + 1)).trans hx1
  have f0 : w.frozen? ⟨g, o, none⟩ = false := hb.frozen o
  have f1 : w.frozen? ⟨g, o + 1, none⟩ = false := hb.frozen (o + 1)
  have HB := Lib.hid hb
  clear hb hx0 hx1
  go_enter Tryd.func127, Tryd.ntmps127
  go_wp2_with fail
  go_end0
  have hB := HB.out
  exact ⟨rfl, ((hB.set_ o _).set_ (o + 1) _).alloc _, grown_alloc (grown_setCell (grown_setCell (World.grownBy.refl w _) _ _) _ _) _⟩
end Go.Proofs.YtlnifplomlnoiaaDoor
