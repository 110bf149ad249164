/- Runes of a string, one behind the other, and their two bytes each; an iterator over a string stays where it was while other blocks are written. No condition. -/
import Derived.Test.YtlnifplomlnoiaaBase
import Derived.Lib.OthersKept
namespace Go.Proofs.Ytlnifplomlnoiaa
open Go.RowKit

/-- The runes from a place on. -/
def runes (s : ByteArray) : Nat → Nat → List Nat
  | 0, _ => []
  | f + 1, pos => if pos < s.size then (Utf8.decode s pos).1 :: runes s f (pos + (Utf8.decode s pos).2) else []

theorem decode_width (s : ByteArray) (pos : Nat) : 1 ≤ (Utf8.decode s pos).2 := by
  simp only [Utf8.decode]
  repeat' split
  all_goals simp

theorem runes_step (s : ByteArray) (f pos : Nat) (h : pos < s.size) : runes s (f + 1) pos = (Utf8.decode s pos).1 :: runes s f (pos + (Utf8.decode s pos).2) := by
  simp [runes, h]
theorem runes_end (s : ByteArray) (f pos : Nat) (h : ¬ pos < s.size) : runes s f pos = [] := by
  cases f <;> simp [runes, h]

/-- All of a string's runes. -/
def R (s : ByteArray) : List Nat := runes s s.size 0
/-- Whether each fits two bytes. -/
def lowB (s : ByteArray) : Bool := (R s).all fun r => decide (r < 65536)

/-- Two bytes for each, the highest first. -/
def enc2 : List Nat → List UInt8
  | [] => []
  | r :: l => UInt8.ofNat (r / 256) :: UInt8.ofNat (r % 256) :: enc2 l
theorem enc2_append (l m : List Nat) : enc2 (l ++ m) = enc2 l ++ enc2 m := by
  induction l with
  | nil => rfl
  | cons r l ih => simp [enc2, ih]
theorem enc2_length (l : List Nat) : (enc2 l).length = 2 * l.length := by
  induction l with
  | nil => rfl
  | cons r l ih => simp [enc2, ih]; omega
theorem enc2_snoc (l : List Nat) (r : Nat) (h : r < 65536) : bvals (enc2 (l ++ [r])) = bvals (enc2 l) ++ [.int .u8 ((r / 256 : Nat) : Int), .int .u8 ((r % 256 : Nat) : Int)] := by
  rw [enc2_append, bvals_append]
  simp only [enc2, bvals, bval, List.map_cons, List.map_nil, UInt8.toNat_ofNat']
  rw [Nat.mod_eq_of_lt (show r / 256 < 2 ^ 8 by omega), Nat.mod_eq_of_lt (show r % 256 < 2 ^ 8 by omega)]

section
variable {w w' : World} {base n k : Nat} {e : TypeId} {v : Value} {xs : List Value} {s : ByteArray} {p : Nat}
theorem own_ne_iter (h : w.ownsRow base e 1 v n xs) (hk : w.heap[k]? = some (.stringIter s p)) : v.ownBlock ≠ some k := by
  rcases h.2 with ⟨rfl, _⟩ | ⟨g, cap, cur, rfl, _, hh, _⟩
  · simp [Value.ownBlock]
  · intro he
    have : g = k := by simpa [Value.ownBlock] using he
    subst this
    rw [hh] at hk
    cases hk
theorem lt_of_iter (hk : w.heap[k]? = some (.stringIter s p)) : k < w.heap.size := (Array.getElem?_eq_some_iff.1 hk).1
theorem iter_grown (hk : w.heap[k]? = some (.stringIter s p)) {row : Option Nat} (hg : w.grownBy w' row) (hr : row ≠ some k) : w'.heap[k]? = some (.stringIter s p) :=
  (hg.block k (lt_of_iter hk) (fun e => hr e.symm)).trans hk
theorem iter_alloc (hk : w.heap[k]? = some (.stringIter s p)) (o : Obj) : (w.alloc o).heap[k]? = some (.stringIter s p) :=
  (Below.heap_alloc w o k (lt_of_iter hk)).trans hk
theorem own_iterAt (h : w.ownsRow base e 1 v n xs) (hk : w.heap[k]? = some (.stringIter s p)) (p' : Nat) : (w.iterAt k s p').ownsRow base e 1 v n xs := by
  have hne := own_ne_iter h hk
  refine ⟨h.1, ?_⟩
  rcases h.2 with h2 | ⟨g, cap, cur, rfl, a, b, c⟩
  · exact .inl h2
  · refine .inr ⟨g, cap, cur, rfl, a, ?_, c⟩
    rw [Lib.iterAt_other _ _ _ _ _ (by simpa [Value.ownBlock] using hne)]
    exact b
theorem iterPos_of (h : w.heap[k]? = some (.stringIter s p)) : w.iterPos k = p := by simp [World.iterPos, h]
theorem rd_iterAt {B : Nat} {A : Option Addr} (h : Rd w B A n xs) (hk : B ≤ k) (p' : Nat) : Rd (w.iterAt k s p') B A n xs :=
  h.keep fun q hq => World.cell?_of_block (Lib.iterAt_other _ _ _ _ _ (by omega))
theorem two_new (w : World) (a b : Value) (t : TypeId) : ∀ j u, [a, b][j]? = some u → (w.alloc (.cells #[a, b] t)).cell? ((⟨w.heap.size, 0, none⟩ : Addr).add j) = some u := by
  intro j u hj
  match j, hj with
  | 0, hj => simp at hj; subst hj; simp [Addr.add]
  | 1, hj => simp at hj; subst hj; simp [Addr.add]
  | j + 2, hj => simp at hj
end
end Go.Proofs.Ytlnifplomlnoiaa
