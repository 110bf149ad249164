/- Whole arrays in memory: laid, boxed, stored, read, handed back; a slice made full, as a block that is known whole. No condition. -/
import Derived.Test.YtlnifplomlnoiaaDoorLE
import Derived.Laws.CopyOwn
import Derived.Deep.MidRow
import Derived.Deep.OwnRows
namespace Go.Proofs.YtlnifplomlnoiaaDoor
open Go.RowKit

/-- Numbers as values of a kind. -/
def nvals (k : IntKind) (l : List Nat) : List Value := l.map fun (r : Nat) => Value.int k (r : Int)
theorem nvals_length (k : IntKind) (l : List Nat) : (nvals k l).length = l.length := by simp [nvals]
theorem nvals_get? {k : IntKind} {l : List Nat} {i x : Nat} (h : l[i]? = some x) : (nvals k l)[i]? = some (.int k (x : Int)) := by simp [nvals, h]
theorem nvals_getD {k : IntKind} {l : List Nat} {i : Nat} (h : i < l.length) : (nvals k l)[i]? = some (.int k ((l.getD i 0 : Nat) : Int)) :=
  nvals_get? (by rw [List.getD_eq_getElem?_getD, List.getElem?_eq_getElem h]; rfl)
theorem nvals_one {k : IntKind} {l : List Nat} : ∀ u ∈ nvals k l, u.oneCell' = true := by
  intro u hu
  simp only [nvals, List.mem_map] at hu
  obtain ⟨b, _, rfl⟩ := hu
  rfl
theorem nvals_set (k : IntKind) (l : List Nat) (i x : Nat) : (nvals k l).set i (.int k (x : Int)) = nvals k (l.set i x) := by
  simp [nvals, List.map_set]
/-- So many noughts. -/
def zeros (n : Nat) : List Nat := List.replicate n 0

section
variable {P : Program} {w : World} {ops : Array Oper} {rest : List Oper} {o : Oper} {a : Act} {Q : Exit → Act → World → Prop}

theorem wpList_alloc_arr (hgd : o.guard = none) (T : TypeId) (ho : o.op = .alloc T) (zs : List Value) (i : TypeInfo) (hi : P.info? T = some i) (hz : i.zero = some (.agg zs.toArray))
    (h : ∀ w' g, Hid (g = w.heap.size) → Blk w' g T zs → Below w.heap.size w w' → Hid (w'.heap.size = g + 1) → wpList P ops Q rest (a.put o.dst (.pointer (some ⟨g, 0, none⟩))) w') : wpList P ops Q (o :: rest) a w := by
  refine wpList_plain hgd fun K hK => ?_
  have hrun : (Instr.alloc T true (.tuple #[])).run P w = .ok (.pointer (some ⟨w.heap.size, 0, none⟩)) (w.alloc (.cells zs.toArray T)) := by
    simp [Instr.alloc, zeroValue, typeInfo, hi, hz, newVar, newRow, newObj, Value.cells, Sem.run]
  unfold Oper.wp
  simp [execOp, ho, hrun, Result.andThen]
  exact hK _ _ (h _ _ rfl (Blk.new w T zs) ((Below.refl _ _).alloc (Nat.le_refl _) _) (show _ = _ by simp))

theorem wpList_box_arr (hgd : o.guard = none) (T : TypeId) (x : Operand) (ho : o.op = .box T x) (zs : List Value) (hx : a.eval x = .agg zs.toArray)
    (h : ∀ w' g, Hid (g = w.heap.size) → Blk w' g T zs → Below w.heap.size w w' → Hid (w'.heap.size = g + 1) → wpList P ops Q rest (a.put o.dst (.pointer (some ⟨g, 0, none⟩))) w') : wpList P ops Q (o :: rest) a w := by
  refine wpList_plain hgd fun K hK => ?_
  have hrun : (Instr.box T (.agg zs.toArray)).run P w = .ok (.pointer (some ⟨w.heap.size, 0, none⟩)) (w.alloc (.cells zs.toArray T)) := by
    simp [Instr.box, newVar, newRow, newObj, Value.cells, Sem.run]
  unfold Oper.wp
  simp [execOp, ho, hx, hrun, Result.andThen]
  exact hK _ _ (h _ _ rfl (Blk.new w T zs) ((Below.refl _ _).alloc (Nat.le_refl _) _) (show _ = _ by simp))

theorem wpList_build1 (hgd : o.guard = none) (T : TypeId) (x : Operand) (ho : o.op = .build T #[(0, x)]) (v u : Value) (hx : a.eval x = v) (hrun : (Instr.build T #[(0, v)]).run P w = .ok u w)
    (h : wpList P ops Q rest (a.put o.dst u) w) : wpList P ops Q (o :: rest) a w := by
  refine wpList_plain hgd fun K hK => ?_
  unfold Oper.wp
  simp [execOp, ho, hx, hrun, Result.andThen]
  exact hK _ _ h

theorem wpList_build0 (hgd : o.guard = none) (T : TypeId) (ho : o.op = .build T #[]) (u : Value) (hrun : (Instr.build T #[]).run P w = .ok u w)
    (h : wpList P ops Q rest (a.put o.dst u) w) : wpList P ops Q (o :: rest) a w := by
  refine wpList_plain hgd fun K hK => ?_
  unfold Oper.wp
  simp [execOp, ho, hrun, Result.andThen]
  exact hK _ _ h

theorem wpList_make_blk (hgd : o.guard = none) (l c : Operand) (t : TypeId) (hop : o.op = Op.makeSlice t l c)
    (e : TypeId) (i : TypeInfo) (z : Value) (ht : P.underlying t = some (.slice e)) (hi : P.info? e = some i) (hz : i.zero = some z) (hsize : i.size = 1) (hz1 : z.cells = #[z])
    (kl kc : IntKind) (n : Nat) (hl : a.eval l = .int kl (n : Int)) (hc : a.eval c = .int kc (n : Int)) (hbytes : i.bytes * n ≤ 281474976710656) (h63 : n ≤ 9223372036854775807)
    (h : ∀ w' g, Hid (g = w.heap.size) → Blk w' g e (List.replicate n z) → Below w.heap.size w w' → Hid (w'.heap.size = g + 1) → wpList P ops Q rest (a.put o.dst (.slice (some ⟨g, 0, none⟩) n n)) w') :
    wpList P ops Q (o :: rest) a w := by
  refine wpList_make_row (P := P) w hgd l c t hop e i z ht hi hz hsize hz1 kl kc n hl hc hbytes h63 ?_
  refine h _ _ rfl ?_ ((Below.refl _ _).alloc (Nat.le_refl _) _) (show _ = _ by simp)
  rw [← toList_madeCells_one]
  exact heap_alloc_new w _

theorem Blk.range {g : Nat} {t : TypeId} {cs : List Value} (h : Blk w g t cs) : w.rangeAt g 0 cs := fun j v hv => by rw [Nat.zero_add, h.cell]; exact hv
theorem Blk.there {g : Nat} {t : TypeId} {cs : List Value} (h : Blk w g t cs) : w.there g 0 cs.length := fun j hj => by
  rw [Nat.zero_add, h.cell]
  exact ⟨by simp [List.getElem?_eq_getElem hj], h.frozen j⟩

theorem blk_setCells (g : Nat) (t : TypeId) : ∀ (vs old : List Value) (o : Nat) (w : World), Blk w g t old → o + vs.length = old.length → Blk (w.setCells g o vs) g t (old.take o ++ vs)
  | [], old, o, w, h, hl => by
    simp at hl
    subst hl
    simpa [World.setCells] using h
  | v :: vs, old, o, w, h, hl => by
    simp at hl
    have hb := blk_setCells g t vs (old.set o v) (o + 1) (w.setCell ⟨g, o, none⟩ v) (h.set_ o v) (by simp; omega)
    have he : (old.set o v).take (o + 1) ++ vs = old.take o ++ v :: vs := by
      have h1 : (old.set o v).take (o + 1) = old.take o ++ [v] := by
        apply List.ext_getElem
        · simp; omega
        · intro k k1 k2
          simp at k1 k2 ⊢
          by_cases hk : k < o
          · rw [List.getElem_set_ne (by omega), List.getElem_append_left (by simp; omega)]
            simp
          · obtain rfl : k = o := by omega
            rw [List.getElem_append_right (by simp; omega)]
            simp
      rw [h1]
      simp
    rw [he] at hb
    exact hb

theorem grown_setCells (g : Nat) : ∀ (vs : List Value) (o : Nat) (w0 w : World), w0.grownBy w (some g) → w0.grownBy (w.setCells g o vs) (some g) ∧ (w.setCells g o vs).heap.size = w.heap.size
  | [], _, _, _, h => ⟨h, rfl⟩
  | v :: vs, o, w0, w, h => by
    obtain ⟨h1, h2⟩ := grown_setCells g vs (o + 1) w0 (w.setCell ⟨g, o, none⟩ v) (grown_setCell h o v)
    exact ⟨h1, h2.trans (by simp [World.setCell])⟩

theorem wpList_store_blk (hgd : o.guard = none) (T : TypeId) (x y : Operand) (ho : o.op = .store T x y) (g : Nat) (t : TypeId) (old cs : List Value)
    (hx : a.eval x = .pointer (some ⟨g, 0, none⟩)) (hy : a.eval y = .agg cs.toArray) (hb : Blk w g t old) (hl : cs.length = old.length) (hi : (P.info? T).map (·.size) = some cs.length) (h1 : ∀ v ∈ cs, v.oneCell' = true)
    (h : ∀ w', Blk w' g t cs → w.grownBy w' (some g) → w'.heap.size = w.heap.size → wpList P ops Q rest (a.put o.dst undef) w') : wpList P ops Q (o :: rest) a w := by
  refine wpList_store_mid hgd T x y ho g 0 cs.toArray hx hy (by simpa [hl] using hb.there) (by simpa using hi) (all_oneCell_toArray h1) ?_
  have hB := blk_setCells g t cs old 0 w hb (by simp [hl])
  simp at hB
  obtain ⟨h1, h2⟩ := grown_setCells g cs 0 w w (World.grownBy.refl w _)
  exact h _ hB h1 h2

end
end Go.Proofs.YtlnifplomlnoiaaDoor
