/- SHA-256's block function as a function on lists of whole numbers, whatever its table K. No program but for the words of bits; and the library's RotateLeft32. -/
import Derived.Test.YtlnifplomlnoiaaDoorSha1Fn
namespace Go.Proofs.YtlnifplomlnoiaaDoor
open Go.RowKit

theorem rotL_17 (x : Int) (w : World) : Calls Tryd.prog 145 #[.int .u32 x, .int .i64 (-17)] w fun E w' => E = .returned (.int .u32 (rotU 15 x)) ∧ w' = w := by
  have e : bits .and .u64 (IntKind.u64.wrap (-17)) 31 = 15 := by decide
  go_enter Tryd.func145, Tryd.ntmps145
  go_wp2_with fail
  go_ret
  exact ⟨rfl, rfl⟩
theorem rotL_19 (x : Int) (w : World) : Calls Tryd.prog 145 #[.int .u32 x, .int .i64 (-19)] w fun E w' => E = .returned (.int .u32 (rotU 13 x)) ∧ w' = w := by
  have e : bits .and .u64 (IntKind.u64.wrap (-19)) 31 = 13 := by decide
  go_enter Tryd.func145, Tryd.ntmps145
  go_wp2_with fail
  go_ret
  exact ⟨rfl, rfl⟩
theorem rotL_7 (x : Int) (w : World) : Calls Tryd.prog 145 #[.int .u32 x, .int .i64 (-7)] w fun E w' => E = .returned (.int .u32 (rotU 25 x)) ∧ w' = w := by
  have e : bits .and .u64 (IntKind.u64.wrap (-7)) 31 = 25 := by decide
  go_enter Tryd.func145, Tryd.ntmps145
  go_wp2_with fail
  go_ret
  exact ⟨rfl, rfl⟩
theorem rotL_18 (x : Int) (w : World) : Calls Tryd.prog 145 #[.int .u32 x, .int .i64 (-18)] w fun E w' => E = .returned (.int .u32 (rotU 14 x)) ∧ w' = w := by
  have e : bits .and .u64 (IntKind.u64.wrap (-18)) 31 = 14 := by decide
  go_enter Tryd.func145, Tryd.ntmps145
  go_wp2_with fail
  go_ret
  exact ⟨rfl, rfl⟩
theorem rotL_6 (x : Int) (w : World) : Calls Tryd.prog 145 #[.int .u32 x, .int .i64 (-6)] w fun E w' => E = .returned (.int .u32 (rotU 26 x)) ∧ w' = w := by
  have e : bits .and .u64 (IntKind.u64.wrap (-6)) 31 = 26 := by decide
  go_enter Tryd.func145, Tryd.ntmps145
  go_wp2_with fail
  go_ret
  exact ⟨rfl, rfl⟩
theorem rotL_11 (x : Int) (w : World) : Calls Tryd.prog 145 #[.int .u32 x, .int .i64 (-11)] w fun E w' => E = .returned (.int .u32 (rotU 21 x)) ∧ w' = w := by
  have e : bits .and .u64 (IntKind.u64.wrap (-11)) 31 = 21 := by decide
  go_enter Tryd.func145, Tryd.ntmps145
  go_wp2_with fail
  go_ret
  exact ⟨rfl, rfl⟩
theorem rotL_25 (x : Int) (w : World) : Calls Tryd.prog 145 #[.int .u32 x, .int .i64 (-25)] w fun E w' => E = .returned (.int .u32 (rotU 7 x)) ∧ w' = w := by
  have e : bits .and .u64 (IntKind.u64.wrap (-25)) 31 = 7 := by decide
  go_enter Tryd.func145, Tryd.ntmps145
  go_wp2_with fail
  go_ret
  exact ⟨rfl, rfl⟩
theorem rotL_2 (x : Int) (w : World) : Calls Tryd.prog 145 #[.int .u32 x, .int .i64 (-2)] w fun E w' => E = .returned (.int .u32 (rotU 30 x)) ∧ w' = w := by
  have e : bits .and .u64 (IntKind.u64.wrap (-2)) 31 = 30 := by decide
  go_enter Tryd.func145, Tryd.ntmps145
  go_wp2_with fail
  go_ret
  exact ⟨rfl, rfl⟩
theorem rotL_13 (x : Int) (w : World) : Calls Tryd.prog 145 #[.int .u32 x, .int .i64 (-13)] w fun E w' => E = .returned (.int .u32 (rotU 19 x)) ∧ w' = w := by
  have e : bits .and .u64 (IntKind.u64.wrap (-13)) 31 = 19 := by decide
  go_enter Tryd.func145, Tryd.ntmps145
  go_wp2_with fail
  go_ret
  exact ⟨rfl, rfl⟩
theorem rotL_22 (x : Int) (w : World) : Calls Tryd.prog 145 #[.int .u32 x, .int .i64 (-22)] w fun E w' => E = .returned (.int .u32 (rotU 10 x)) ∧ w' = w := by
  have e : bits .and .u64 (IntKind.u64.wrap (-22)) 31 = 10 := by decide
  go_enter Tryd.func145, Tryd.ntmps145
  go_wp2_with fail
  go_ret
  exact ⟨rfl, rfl⟩
theorem rotl32_any (x k : Int) (h : k = -17 ∨ k = -19 ∨ k = -7 ∨ k = -18 ∨ k = -6 ∨ k = -11 ∨ k = -25 ∨ k = -2 ∨ k = -13 ∨ k = -22) (w : World) :
    Calls Tryd.prog 145 #[.int .u32 x, .int .i64 k] w fun E w' => E = .returned (.int .u32 (rotU (k % 32).toNat x)) ∧ w' = w := by
  rcases h with rfl | rfl | rfl | rfl | rfl | rfl | rfl | rfl | rfl | rfl
  · exact rotL_17 x w
  · exact rotL_19 x w
  · exact rotL_7 x w
  · exact rotL_18 x w
  · exact rotL_6 x w
  · exact rotL_11 x w
  · exact rotL_25 x w
  · exact rotL_2 x w
  · exact rotL_13 x w
  · exact rotL_22 x w

theorem rotl32_q (x k : Int) (h : k = -17 ∨ k = -19 ∨ k = -7 ∨ k = -18 ∨ k = -6 ∨ k = -11 ∨ k = -25 ∨ k = -2 ∨ k = -13 ∨ k = -22) (w : World) :
    Calls Tryd.prog 145 #[.int .u32 x, .int .i64 k] w fun E w' => E = .returned (.int .u32 (rotU (k % 32).toNat x)) ∧ w = w' := (rotl32_any x k h w).mono fun _ _ h => ⟨h.1, h.2.symm⟩

abbrev S8 := Int × Int × Int × Int × Int × Int × Int × Int
def sl8 : S8 → List Int
  | (a, b, c, d, e, f, g, h) => [a, b, c, d, e, f, g, h]
/-- A word of four bytes, the highest first, in this text's order. -/
def beV (b0 b1 b2 b3 : Int) : Int :=
  bits .or .u32 (bits .or .u32 (bits .or .u32 (b0 % 4294967296 * 16777216 % 4294967296) (b1 % 4294967296 * 65536 % 4294967296)) (b2 % 4294967296 * 256 % 4294967296)) (b3 % 4294967296)
def kT1 (v : Int) : Int := bits .xor .u32 (bits .xor .u32 (rotU 15 v) (rotU 13 v)) (v / 1024)
def kT2 (v : Int) : Int := bits .xor .u32 (bits .xor .u32 (rotU 25 v) (rotU 14 v)) (v / 8)
def kExt (l : List Int) (i : Nat) : Int := (((kT1 (l.getD (i - 2) 0) + l.getD (i - 7) 0) % 4294967296 + kT2 (l.getD (i - 15) 0)) % 4294967296 + l.getD (i - 16) 0) % 4294967296
def kWord (P : List Int) (t : Nat) (l : List Int) (i : Nat) : Int :=
  if i < 16 then beV (P.getD (t + 4 * i) 0) (P.getD (t + 4 * i + 1) 0) (P.getD (t + 4 * i + 2) 0) (P.getD (t + 4 * i + 3) 0) else kExt l i
def kR (k x : Int) : S8 → S8
  | (a, b, c, d, e, f, g, h) =>
    let t1 := (h + bits .xor .u32 (bits .xor .u32 (rotU 26 e) (rotU 21 e)) (rotU 7 e) + bits .xor .u32 (bits .and .u32 e f) (bits .and .u32 (bits .xor .u32 IntKind.u32.max e) g) + k + x) % 4294967296
    let t2 := (bits .xor .u32 (bits .xor .u32 (rotU 30 a) (rotU 19 a)) (rotU 10 a) + bits .xor .u32 (bits .xor .u32 (bits .and .u32 a b) (bits .and .u32 a c)) (bits .and .u32 b c)) % 4294967296
    ((t1 + t2) % 4294967296, a, b, c, (d + t1) % 4294967296, e, f, g)
/-- So many rounds: the words as they stand in memory, and the eight. -/
def kRs (K : Nat → Int) (P : List Int) (t : Nat) (l : List Int) (s : S8) : Nat → List Int × S8
  | 0 => (l, s)
  | i + 1 =>
    let p := kRs K P t l s i
    let l' := p.1.set i (kWord P t p.1 i)
    (l', kR (K i) (l'.getD i 0) p.2)
def kAdd : S8 → S8 → S8
  | (a, b, c, d, e, f, g, h), (a', b', c', d', e', f', g', h') => ((a + a') % 4294967296, (b + b') % 4294967296, (c + c') % 4294967296, (d + d') % 4294967296, (e + e') % 4294967296, (f + f') % 4294967296, (g + g') % 4294967296, (h + h') % 4294967296)
theorem kRs_length (K : Nat → Int) (P : List Int) (t : Nat) (l : List Int) (s : S8) (h : l.length = 64) : ∀ i, (kRs K P t l s i).1.length = 64
  | 0 => h
  | i + 1 => by simp [kRs, kRs_length K P t l s h i]
/-- So many blocks of r rounds (r is 64; a variable here, lest Lean reckon). -/
def kBlocks (r : Nat) (K : Nat → Int) (P : List Int) (s : S8) : Nat → List Int × S8
  | 0 => (List.replicate 64 0, s)
  | k + 1 => ((kRs K P (64 * k) (kBlocks r K P s k).1 (kBlocks r K P s k).2 r).1, kAdd (kBlocks r K P s k).2 (kRs K P (64 * k) (kBlocks r K P s k).1 (kBlocks r K P s k).2 r).2)
theorem kBlocks_length (r : Nat) (K : Nat → Int) (P : List Int) (s : S8) : ∀ k, (kBlocks r K P s k).1.length = 64
  | 0 => by simp [kBlocks]
  | k + 1 => by
    rw [kBlocks]
    exact kRs_length K P _ _ _ (kBlocks_length r K P s k) r
/-- The digest in memory. -/
def dg (s : S8) (x : List Int) (nx len : Int) : List Value := uvals (sl8 s) ++ (ivals x ++ [.int .i64 nx, .int .u64 len, .bool false])
end Go.Proofs.YtlnifplomlnoiaaDoor
