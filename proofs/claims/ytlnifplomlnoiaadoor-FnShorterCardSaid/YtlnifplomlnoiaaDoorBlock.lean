/- Blocks as bytes and as words; the laws' test of a key. -/
import Derived.Test.YtlnifplomlnoiaaDoorImplRC2
import Derived.Test.YtlnifplomlnoiaaDoorEq
namespace Go.Proofs.YtlnifplomlnoiaaDoor
open Go.RowKit

/-- Numbers as bytes. -/
def bytesOfInts (l : List Int) : List UInt8 := l.map fun z => UInt8.ofNat z.toNat
theorem ints_bytesOfInts {l : List Int} (h : ∀ x ∈ l, 0 ≤ x ∧ x ≤ 255) : ints (bytesOfInts l) = l := by
  unfold ints bytesOfInts
  rw [List.map_map]
  conv => rhs; rw [← List.map_id l]
  apply List.map_congr_left
  intro x hx
  have := h x hx
  simp only [Function.comp, UInt8.toNat_ofNat', id]
  omega
theorem bytesOfInts_ints (l : List UInt8) : bytesOfInts (ints l) = l := by
  unfold ints bytesOfInts
  rw [List.map_map]
  conv => rhs; rw [← List.map_id l]
  apply List.map_congr_left
  intro x _
  simp only [Function.comp, Int.toNat_natCast, UInt8.ofNat_toNat, id]
theorem ints_length (l : List UInt8) : (ints l).length = l.length := by simp [ints]
theorem block_length (s : S4) : (block s).length = 8 := rfl
theorem block_le {s : S4} (h : Ok4 s) : ∀ x ∈ block s, 0 ≤ x ∧ x ≤ 255 := by
  obtain ⟨a, b, c, d⟩ := s
  simp only [Ok4] at h
  simp only [block]
  intro x hx
  simp only [List.mem_cons, List.not_mem_nil, or_false] at hx
  rcases hx with rfl | rfl | rfl | rfl | rfl | rfl | rfl | rfl <;> omega
theorem words_block (s : S4) : words (block s) = s := by
  obtain ⟨a, b, c, d⟩ := s
  simp only [words, block, List.getD_cons_zero, List.getD_cons_succ]
  congr 1
  · omega
  congr 1
  · omega
  congr 1
  · omega
  · omega
theorem block_words {l : List Int} (hl : l.length = 8) (h : ∀ x ∈ l, 0 ≤ x ∧ x ≤ 255) : block (words l) = l := by
  match l, hl with
  | [a0, a1, a2, a3, a4, a5, a6, a7], _ =>
    have h0 := h a0 (by simp); have h1 := h a1 (by simp); have h2 := h a2 (by simp); have h3 := h a3 (by simp)
    have h4 := h a4 (by simp); have h5 := h a5 (by simp); have h6 := h a6 (by simp); have h7 := h a7 (by simp)
    simp only [words, block, List.getD_cons_zero, List.getD_cons_succ, List.cons.injEq, and_true]
    omega

def keyOk (n : Nat) (t : Int) : Bool := decide (1 ≤ n ∧ n ≤ 128 ∧ 1 ≤ t ∧ t ≤ 1024)
set_option maxHeartbeats 1000000 in
theorem keyOk_any (A : Option Addr) (n c : Nat) (t : Int) (w : World) : Calls Tryd.prog 12 #[.slice A n c, .int .i64 t] w fun E w' => E = .returned (.bool (keyOk n t)) ∧ w' = w := by
  by_cases a1 : 1 ≤ n
  · have n1 : (1 : Int) ≤ (n : Int) := by omega
    by_cases a2 : n ≤ 128
    · have n2 : (n : Int) ≤ 128 := by omega
      by_cases a3 : 1 ≤ t
      · by_cases a4 : t ≤ 1024
        · have hk : keyOk n t = true := by simp [keyOk]; omega
          rw [hk]
          go_enter Tryd.func12, Tryd.ntmps12
          go_wp2_with fail
          go_ret
          exact ⟨rfl, rfl⟩
        · have hk : keyOk n t = false := by simp [keyOk]; omega
          rw [hk]
          go_enter Tryd.func12, Tryd.ntmps12
          go_wp2_with fail
          go_ret
          exact ⟨rfl, rfl⟩
      · have hk : keyOk n t = false := by simp [keyOk]; omega
        rw [hk]
        go_enter Tryd.func12, Tryd.ntmps12
        go_wp2_with fail
        go_ret
        exact ⟨rfl, rfl⟩
    · have n2 : ¬ (n : Int) ≤ 128 := by omega
      have hk : keyOk n t = false := by simp [keyOk]; omega
      rw [hk]
      go_enter Tryd.func12, Tryd.ntmps12
      go_wp2_with fail
      go_ret
      exact ⟨rfl, rfl⟩
  · have n1 : ¬ (1 : Int) ≤ (n : Int) := by omega
    have hk : keyOk n t = false := by simp [keyOk]; omega
    rw [hk]
    go_enter Tryd.func12, Tryd.ntmps12
    go_wp2_with fail
    go_ret
    exact ⟨rfl, rfl⟩

/-- A block that reads as bytes. -/
theorem blk_rd {w : World} {g : Nat} {s : S4} (h : Blk w g 5 (ivals (block s))) (hs : Ok4 s) : Rd w w.heap.size (some ⟨g, 0, none⟩) 8 (bvals (bytesOfInts (block s))) := by
  rw [← ivals_ints, ints_bytesOfInts (block_le hs)]
  exact (h.rd 8 rfl).more h.lt
theorem crypt_ok (enc : Bool) (K : Nat → Int) (s : S4) : Ok4 (crypt enc K s) := by
  cases enc
  · exact decS_ok K s
  · exact encS_ok K s
end Go.Proofs.YtlnifplomlnoiaaDoor
