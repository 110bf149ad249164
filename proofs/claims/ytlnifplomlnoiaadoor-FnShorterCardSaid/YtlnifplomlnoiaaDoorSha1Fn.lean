/- SHA-1 as a function on lists of whole numbers, step by step as the program's text reckons it. No program but for the words of bits. -/
import Derived.Test.YtlnifplomlnoiaaDoorRotate
import Derived.Test.YtlnifplomlnoiaaDoorPadded
namespace Go.Proofs.YtlnifplomlnoiaaDoor
open Go.RowKit

def uvals (l : List Int) : List Value := l.map (Value.int .u32)
theorem uvals_length (l : List Int) : (uvals l).length = l.length := by simp [uvals]
theorem uvals_get {l : List Int} {i : Nat} (h : i < l.length) : (uvals l)[i]? = some (.int .u32 (l.getD i 0)) := by
  simp [uvals, List.getD_eq_getElem?_getD, List.getElem?_eq_getElem h]
theorem uvals_set (l : List Int) (i : Nat) (x : Int) : (uvals l).set i (.int .u32 x) = uvals (l.set i x) := by simp [uvals, List.map_set]
theorem uvals_one {l : List Int} : ∀ u ∈ uvals l, u.oneCell' = true := by
  intro u hu
  simp only [uvals, List.mem_map] at hu
  obtain ⟨b, _, rfl⟩ := hu
  rfl

/-- The first sixteen words of the schedule. -/
def wLow (m : List Int) (t : Nat) : Nat → List Int
  | 0 => List.replicate 80 0
  | i + 1 => (wLow m t i).set i (beW (m.getD (t + 4 * i) 0) (m.getD (t + 4 * i + 1) 0) (m.getD (t + 4 * i + 2) 0) (m.getD (t + 4 * i + 3) 0))
def wNext (l : List Int) (i : Nat) : Int :=
  rotU 1 (bits .xor .u32 (bits .xor .u32 (bits .xor .u32 (l.getD (i - 3) 0) (l.getD (i - 8) 0)) (l.getD (i - 14) 0)) (l.getD (i - 16) 0))
/-- .. and the others. -/
def wHigh (l : List Int) : Nat → List Int
  | 0 => l
  | k + 1 => (wHigh l k).set (16 + k) (wNext (wHigh l k) (16 + k))
theorem wLow_length (m : List Int) (t : Nat) : ∀ i, (wLow m t i).length = 80
  | 0 => by simp [wLow]
  | i + 1 => by simp [wLow, wLow_length m t i]
theorem wHigh_length (l : List Int) (h : l.length = 80) : ∀ k, (wHigh l k).length = 80
  | 0 => h
  | k + 1 => by simp [wHigh, wHigh_length l h k]
abbrev S5 := Int × Int × Int × Int × Int
def sF (i : Nat) (b c d : Int) : Int :=
  if i < 20 then bits .or .u32 (bits .and .u32 b c) (bits .and .u32 (bits .xor .u32 IntKind.u32.max b) d)
  else if i < 40 then bits .xor .u32 (bits .xor .u32 b c) d
  else if i < 60 then bits .or .u32 (bits .or .u32 (bits .and .u32 b c) (bits .and .u32 b d)) (bits .and .u32 c d)
  else bits .xor .u32 (bits .xor .u32 b c) d
def sK (i : Nat) : Int := if i < 20 then 1518500249 else if i < 40 then 1859775393 else if i < 60 then 2400959708 else 3395469782
def sR (i : Nat) (wi : Int) : S5 → S5
  | (a, b, c, d, e) => (IntKind.u32.wrap (IntKind.u32.wrap (IntKind.u32.wrap (IntKind.u32.wrap (rotU 5 a + sF i b c d) + e) + sK i) + wi), a, rotU 30 b, c, d)
def sRs (l : List Int) (s : S5) : Nat → S5
  | 0 => s
  | i + 1 => sR i (l.getD i 0) (sRs l s i)
def sAdd : S5 → S5 → S5
  | (a, b, c, d, e), (a', b', c', d', e') => (IntKind.u32.wrap (a + a'), IntKind.u32.wrap (b + b'), IntKind.u32.wrap (c + c'), IntKind.u32.wrap (d + d'), IntKind.u32.wrap (e + e'))
def sl : S5 → List Int
  | (a, b, c, d, e) => [a, b, c, d, e]
def sched (m : List Int) (t : Nat) : List Int := wHigh (wLow m t 16) 64
/-- A block's part. -/
def sComp (m : List Int) (t : Nat) (s : S5) : S5 := sAdd s (sRs (sched m t) s 80)
def sInit : S5 := (1732584193, 4023233417, 2562383102, 271733878, 3285377520)
def sBlocks (m : List Int) : Nat → S5
  | 0 => sInit
  | k + 1 => sComp m (64 * k) (sBlocks m k)
def outBytes : List Int → List Int
  | [] => []
  | x :: l => be4 x ++ outBytes l
def sha1 (l : List Int) : List Int :=
  outBytes (sl (sBlocks (pad1 l) ((l.length + 72) / 64)))
theorem outBytes_append : ∀ l m : List Int, outBytes (l ++ m) = outBytes l ++ outBytes m
  | [], _ => rfl
  | x :: l, m => by simp [outBytes, outBytes_append l m]
theorem outBytes_succ (l : List Int) (j : Nat) (hj : j < l.length) : outBytes (l.take (j + 1)) = outBytes (l.take j) ++ be4 (l.getD j 0) := by
  rw [List.take_add_one, List.getElem?_eq_getElem hj, outBytes_append, List.getD_eq_getElem?_getD, List.getElem?_eq_getElem hj]
  simp [outBytes]
theorem sha1_length (l : List Int) : (sha1 l).length = 20 := rfl
end Go.Proofs.YtlnifplomlnoiaaDoor
