/- rc2.New: the key expanded, in a new cipher. -/
import Derived.Test.YtlnifplomlnoiaaDoorExpand
import Derived.Test.YtlnifplomlnoiaaDoorEncrypt
namespace Go.Proofs.YtlnifplomlnoiaaDoor
open Go.RowKit

theorem take_set_cons {α : Type} (old : List α) (o : Nat) (v : α) (vs : List α) (h : o < old.length) : (old.set o v).take (o + 1) ++ vs = old.take o ++ v :: vs := by
  have h1 : (old.set o v).take (o + 1) = old.take o ++ [v] := by
    apply List.ext_getElem
    · simp; omega
    · intro k k1 k2
      simp at k1 k2 ⊢
      by_cases hk : k < o
      · rw [List.getElem_set_ne (by omega), List.getElem_append_left (by simp; omega)]
        simp
      · obtain rfl : k = o := by omega
        rw [List.getElem_append_right (by simp; omega)]
        simp
  rw [h1]
  simp

theorem fold_set : ∀ (cs old : List Value) (k : Nat), k + cs.length = old.length → (cs.zipIdx k).foldl (fun (a : Array Value) (x : Value × Nat) => a.setIfInBounds x.snd x.fst) old.toArray = (old.take k ++ cs).toArray
  | [], old, k, h => by
    simp at h
    subst h
    simp
  | c :: cs, old, k, h => by
    simp only [List.length_cons] at h
    have hs : old.toArray.setIfInBounds k c = (old.set k c).toArray := by simp
    rw [List.zipIdx_cons, List.foldl_cons, hs, fold_set cs (old.set k c) (k + 1) (by simp; omega), take_set_cons old k c cs (by omega)]

theorem built78 (v : Value) : Tryd.prog.built 78 [(0, v)] = Instr.fill (fun x => #[(0, 64)][x]?) (nvals .u16 (zeros 64)).toArray [(0, v)] := by kernel_rfl
theorem build78 (cs : List Value) (hl : cs.length = 64) (w : World) : (Instr.build 78 #[(0, .agg cs.toArray)]).run Tryd.prog w = .ok (.agg cs.toArray) w := by
  refine run_build w 78 _ _ ?_
  rw [built78]
  have hz : (nvals .u16 (zeros 64)).length = 64 := by simp [nvals_length, zeros]
  have hf := fold_set cs (nvals .u16 (zeros 64)) 0 (by rw [hz, hl])
  simp only [List.take_zero, List.nil_append] at hf
  simp [Instr.fill, Value.cells, hl, hz, hf]

theorem expanded_length (T : Nat → Nat) (key : List Nat) (t1 : Nat) : (expanded T key t1).length = 64 := by simp [expanded, pairs]

set_option maxRecDepth 1000000 in
set_option maxHeartbeats 4000000 in
theorem new_any (T : Nat → Nat) (A : Option Addr) (n c t1 : Nat) (key : List Nat) (w : World) (hT : TabAt w T) (hTb : ∀ x, T x ≤ 255) (hr : Rd w w.heap.size A n (nvals .u8 key)) (hkb : ∀ x ∈ key, x ≤ 255) (hn0 : 1 ≤ n) (hn : n ≤ 128) (ht0 : 1 ≤ t1) (ht1 : t1 ≤ 1024) :
    Calls Tryd.prog 30 #[.slice A n c, .int .i64 (t1 : Int)] w fun E w' => ∃ g, E = .returned (.tuple #[.iface 73 (.pointer (some ⟨g, 0, none⟩)), .nilIface]) ∧ w.heap.size ≤ g ∧ Blk w' g 78 (nvals .u16 (expanded T key t1)) ∧ Below w.heap.size w w' := by
  obtain ⟨X, hX⟩ : ∃ X, X = nvals .u16 (expanded T key t1) := ⟨_, rfl⟩
  have hb78 := build78 X (by rw [hX, nvals_length, expanded_length])
  have hcall := (expandKey_any T A n c t1 key w hT hTb hr hkb hn0 hn ht0 ht1)
  rw [← hX] at hcall ⊢
  have HC := Lib.hid hcall
  clear hX hcall hr hT hTb hkb
  go_enter Tryd.func30, Tryd.ntmps30
  go_wp2_with fail
  refine HC.out.mono ?_
  rintro E w1 ⟨rfl, hb1⟩
  go_wp2_with (first | (refine wpList_build1 rfl 78 (.tmp 8) rfl (.agg X.toArray) (.agg X.toArray) rfl (hb78 _) ?_) | refine wpList_box_arr rfl 78 (.tmp 9) rfl X rfl ?_; intro w2 g HG hB hb2 hs2; replace hB := Lib.hid hB)
  go_ret2
  have := HG.out
  exact ⟨g, rfl, by have := hb1.size; omega, hB.out, hb1.trans (hb2.mono hb1.size)⟩
end Go.Proofs.YtlnifplomlnoiaaDoor
