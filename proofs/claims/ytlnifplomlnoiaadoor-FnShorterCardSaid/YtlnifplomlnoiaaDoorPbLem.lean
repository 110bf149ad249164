/- Small laws for the walks of pbkdf. -/
import Derived.Test.YtlnifplomlnoiaaDoorPbApp
import Derived.Test.YtlnifplomlnoiaaDoorSha1Sum
namespace Go.Proofs.YtlnifplomlnoiaaDoor
open Go.RowKit

theorem own_keep {w w' : World} {B : Nat} {e : TypeId} {v : Value} {n : Nat} {xs : List Value} (h : w.ownsRow B e 1 v n xs) (hk : ∀ k, v.ownBlock = some k → w'.heap[k]? = w.heap[k]?) : w'.ownsRow B e 1 v n xs := by
  refine ⟨h.1, ?_⟩
  rcases h.2 with h0 | ⟨g, cap, cur, h1, h2, h3, h4⟩
  · exact Or.inl h0
  · exact Or.inr ⟨g, cap, cur, h1, h2, by rw [hk g (by rw [h1]; rfl)]; exact h3, h4⟩
theorem InRow'.keep {B : Nat} {w w' : World} {v : Value} {n : Nat} {l : List Int} (h : InRow' B w v n l) (hk : ∀ k, v.ownBlock = some k → 0 < n → w'.heap[k]? = w.heap[k]?) : InRow' B w' v n l := by
  refine ⟨h.1, ?_⟩
  rcases h.2 with h1 | ⟨h0, g, cap, cs, h1, h2, h3, h4, h5, h6⟩
  · exact Or.inl h1
  · exact Or.inr ⟨h0, g, cap, cs, h1, h2, h3, h4, (hk g (by rw [h1]; rfl) h0).trans h5, h6⟩
theorem take_split {cs : List Value} {l : List Int} {n : Nat} (h : cs.take n = ivals l) (_hl : l.length = n) : cs = ivals l ++ cs.drop n := by
  rw [← h]; exact (List.take_append_drop n cs).symm
theorem splice_self {cs : List Value} {l : List Int} {n o : Nat} (h : cs.take n = ivals l) (hl : l.length = n) (ho : o + 64 ≤ n) : splice cs o (ivals ((l.drop o).take 64)) = cs := by
  have e := take_split h hl
  have e1 : cs.take o = ivals (l.take o) := by rw [e, List.take_append_of_le_length (by rw [ivals_length]; omega), ivals_take]
  have e2 : cs.drop (o + 64) = ivals (l.drop (o + 64)) ++ cs.drop n := by
    conv => lhs; rw [e]
    rw [List.drop_append_of_le_length (by rw [ivals_length]; omega), ivals_drop]
  have e3 : (ivals ((l.drop o).take 64)).length = 64 := by rw [ivals_length, List.length_take, List.length_drop]; omega
  rw [splice, e3, e1, e2]
  conv => rhs; rw [e]
  rw [← List.append_assoc, ← List.append_assoc, ← ivals_append, ← ivals_append]
  congr 2
  rw [List.append_assoc]
  conv => rhs; rw [← List.take_append_drop o l]
  congr 1
  conv => rhs; rw [← List.take_append_drop 64 (l.drop o)]
  rw [List.drop_drop]
theorem splice_row {cs : List Value} {l zs : List Int} {n o : Nat} (h : cs.take n = ivals l) (hl : l.length = n) (ho : o + 64 ≤ n) (hz : zs.length = 64) : (splice cs o (ivals zs)).take n = ivals (l.take o ++ (zs ++ l.drop (o + 64))) := by
  have e := take_split h hl
  have e1 : cs.take o = ivals (l.take o) := by rw [e, List.take_append_of_le_length (by rw [ivals_length]; omega), ivals_take]
  have e2 : cs.drop (o + 64) = ivals (l.drop (o + 64)) ++ cs.drop n := by
    conv => lhs; rw [e]
    rw [List.drop_append_of_le_length (by rw [ivals_length]; omega), ivals_drop]
  rw [splice, ivals_length, hz, e1, e2, ← List.append_assoc, ← List.append_assoc, ← ivals_append, ← ivals_append, List.append_assoc]
  exact List.take_left' (by rw [ivals_length, List.length_append, List.length_append, List.length_take, List.length_drop]; omega)
def sliceLen : Value → Nat
  | .slice _ m _ => m
  | _ => 0
/-- The digest behind one hash, behind two. -/
def hs2 (H : List Int → List Int) (x : List Int) (j : Nat) : List Int := if j = 1 then H x else H (H x)

theorem addr_add_row (g j : Nat) : (⟨g, 0, none⟩ : Addr).add j = ⟨g, 0 + j, none⟩ := by unfold Addr.add; split <;> simp_all
theorem Rd.src {w : World} {B g n : Nat} {xs : List Value} (h : Rd w B (some ⟨g, 0, none⟩) n xs) (h0 : 0 < n) : ∀ j v, xs[j]? = some v → w.cell? ((⟨g, 0, none⟩ : Addr).add j) = some v := by
  intro j v hv
  obtain ⟨g', o', e1, _, hcell⟩ := h.2 h0
  have e3 : (⟨g, 0, none⟩ : Addr) = ⟨g', o', none⟩ := Option.some.inj e1
  injection e3 with e4 e5
  rw [addr_add_row, e4, e5]
  exact hcell j v hv
theorem Rd.grown_ {w w' : World} {g ga n : Nat} {xs : List Value} (h : Rd w w.heap.size (some ⟨g, 0, none⟩) n xs) (hg : w.grownBy w' (some ga)) (hne : ga < g) : Rd w' w'.heap.size (some ⟨g, 0, none⟩) n xs := by
  refine ⟨h.1, fun h0 => ?_⟩
  obtain ⟨g', o', e1, hlt', hcell⟩ := h.2 h0
  refine ⟨g', o', e1, Nat.lt_of_lt_of_le hlt' hg.size, fun j u hu => ?_⟩
  have e3 : (⟨g, 0, none⟩ : Addr) = ⟨g', o', none⟩ := Option.some.inj e1
  injection e3 with e4 e5
  rw [World.cell?_of_block (a := ⟨g', o' + j, none⟩) (hg.block g' hlt' (fun e => by have h1 := Option.some.inj e; omega))]
  exact hcell j u hu
theorem hs2_one (H : List Int → List Int) (x : List Int) : hs2 H x 1 = H x := rfl
theorem hs2_two (H : List Int → List Int) (x : List Int) : hs2 H x (1 + 1) = H (hs2 H x 1) := rfl
theorem hs2_end (H : List Int → List Int) (x : List Int) : hs2 H x 2 = H (H x) := rfl
theorem fill64_four (a : List Int) : ((List.replicate 4 a).flatten).take 64 = fill64 a := by
  have h2 : (List.replicate 4 a).flatten = a ++ a ++ a ++ a := by
    show a ++ (a ++ (a ++ (a ++ []))) = _
    simp
  rw [h2, fill64]
theorem fill64_two {a : List Int} (h : a.length = 32) : ((List.replicate 2 a).flatten).take 64 = fill64 a := by
  have h2 : (List.replicate 2 a).flatten = a ++ a := by
    show a ++ (a ++ []) = _
    simp
  rw [h2, fill64, List.append_assoc (a ++ a), List.take_append_of_le_length (l₁ := a ++ a) (by rw [List.length_append]; omega)]
end Go.Proofs.YtlnifplomlnoiaaDoor
