/- Copying into a block that is known whole; the digest's buffer filled. -/
import Derived.Test.YtlnifplomlnoiaaDoorSha2Wr
namespace Go.Proofs.YtlnifplomlnoiaaDoor
open Go.RowKit

section
variable {P : Program} {w : World} {ops : Array Oper} {rest : List Oper} {o : Oper} {a : Act} {Q : Exit → Act → World → Prop}

theorem wpList_copy_blk (hgd : o.guard = none) (d s : Operand) (dT sT : TypeId)
    (ho : o.op = .call { callee := .builtin .copy, args := #[d, s], argTypes := #[dT, sT] }) (elem : TypeId) (hu : P.underlying dT = some (.slice elem)) (hsz : (P.info? elem).map (·.size) = some 1)
    (dp sp : Option Addr) (dLen dCap sLen sCap : Nat) (hd : a.eval d = .slice dp dLen dCap) (hs : a.eval s = .slice sp sLen sCap)
    (g off : Nat) (cur : List Value) (t : TypeId) (hg : Blk w g t cur) (cs : List Value) (hn : cs.length = Nat.min sLen dLen)
    (hpos : 0 < cs.length → dp = some ⟨g, off, none⟩ ∧ ∃ ad, sp = some ad ∧ ∀ j v, cs[j]? = some v → w.cell? (ad.add j) = some v)
    (hfit : off + cs.length ≤ cur.length) (h1 : ∀ v ∈ cs, v.oneCell' = true)
    (h : ∀ w', Blk w' g t (splice cur off cs) → w.grownBy w' (some g) → wpList P ops Q rest (a.put o.dst (goInt cs.length)) w') :
    wpList P ops Q (o :: rest) a w := by
  by_cases h0 : cs.length = 0
  · obtain rfl : cs = [] := List.eq_nil_of_length_eq_zero h0
    refine wpList_copy_nothing hgd d s dT sT ho elem hu hsz dp sp dLen dCap sLen sCap hd hs (by simpa using hn.symm) ?_
    have e : splice cur off [] = cur := by simp [splice]
    rw [e] at h
    exact h w hg (World.grownBy.refl w _)
  · obtain ⟨rfl, ad, rfl, hsrc⟩ := hpos (by omega)
    refine wpList_copy_own hgd d s dT sT ho elem hu hsz g off dLen dCap ad sLen sCap hd hs cur.toArray t hg cs hn hsrc (by simpa using hfit) h1 ?_
    exact h _ (show _ = _ by simpa [splice] using setRow_heap w g _ _ t _ hg) ⟨rfl, rfl, rfl, by simp [World.setRow], fun k _ hk => setRow_other w g k _ (fun e => hk (by rw [e]))⟩
end

/-- A text laid over the buffer from k on. -/
def lay (x : List Int) (k : Nat) (ys : List Int) : List Int := x.take k ++ (ys ++ x.drop (k + ys.length))
theorem lay_length {x ys : List Int} {k : Nat} (h : k + ys.length ≤ x.length) : (lay x k ys).length = x.length := by simp [lay]; omega
theorem ivals_take (l : List Int) (k : Nat) : (ivals l).take k = ivals (l.take k) := by simp [ivals, List.map_take]
theorem ivals_drop (l : List Int) (k : Nat) : (ivals l).drop k = ivals (l.drop k) := by simp [ivals, List.map_drop]
theorem dg_splice {s : S8} {x ys : List Int} {nx len : Int} {k : Nat} (hx : x.length = 64) (hk : k + ys.length ≤ 64) : splice (dg s x nx len) (8 + k) (ivals ys) = dg s (lay x k ys) nx len := by
  have e : (uvals (sl8 s)).length = 8 := rfl
  have hxl : (ivals x).length = 64 := by rw [ivals_length, hx]
  have e1 : (dg s x nx len).take (8 + k) = uvals (sl8 s) ++ ivals (x.take k) := by
    rw [dg, List.take_append, e, List.take_of_length_le (by rw [e]; omega), Nat.add_sub_cancel_left, List.take_append, hxl, ivals_take, show k - 64 = 0 by omega]
    simp
  have e2 : (dg s x nx len).drop (8 + k + ys.length) = ivals (x.drop (k + ys.length)) ++ [.int .i64 nx, .int .u64 len, .bool false] := by
    rw [dg, List.drop_append, e, List.drop_of_length_le (by rw [e]; omega), List.nil_append, show 8 + k + ys.length - 8 = k + ys.length by omega, List.drop_append, hxl, ivals_drop, show k + ys.length - 64 = 0 by omega]
    simp
  rw [splice, e1, ivals_length, e2, dg, lay, ivals_append, ivals_append]
  simp
end Go.Proofs.YtlnifplomlnoiaaDoor
