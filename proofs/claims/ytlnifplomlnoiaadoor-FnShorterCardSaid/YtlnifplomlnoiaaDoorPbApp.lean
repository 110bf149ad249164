/- append onto a slice from the beginning of a block of the call's own (or nil) of another such: what the new value holds. -/
import Derived.Test.YtlnifplomlnoiaaDoorPbFn
import Derived.Test.YtlnifplomlnoiaaDoorSha256
namespace Go.Proofs.YtlnifplomlnoiaaDoor
open Go.RowKit

/-- As InRow, but a slice of no elements may lie wherever. -/
def InRow' (B : Nat) (w : World) (v : Value) (n : Nat) (l : List Int) : Prop :=
  l.length = n ∧ ((n = 0 ∧ ∃ A c, v = .slice A 0 c) ∨ (0 < n ∧ ∃ g cap cs, v = .slice (some ⟨g, 0, none⟩) n cap ∧ n ≤ cap ∧ cap ≤ cs.length ∧ B ≤ g ∧ Blk w g 5 cs ∧ cs.take n = ivals l))
theorem InRow.below {B : Nat} {w w' : World} {v : Value} {n : Nat} {l : List Int} (h : InRow B w v n l) (hb : Below w.heap.size w w') : InRow B w' v n l := by
  refine ⟨h.1, ?_⟩
  rcases h.2 with h1 | ⟨h0, g, cap, cs, h1, h2, h3, h4, h5, h6⟩
  · exact Or.inl h1
  · exact Or.inr ⟨h0, g, cap, cs, h1, h2, h3, h4, h5.below hb h5.lt, h6⟩
theorem InRow.base {B B' : Nat} {w : World} {v : Value} {n : Nat} {l : List Int} (h : InRow B w v n l) (hB : B' ≤ B) : InRow B' w v n l := by
  refine ⟨h.1, ?_⟩
  rcases h.2 with h1 | ⟨h0, g, cap, cs, h1, h2, h3, h4, h5, h6⟩
  · exact Or.inl h1
  · exact Or.inr ⟨h0, g, cap, cs, h1, h2, h3, Nat.le_trans hB h4, h5, h6⟩
theorem inRow_of_own {B : Nat} {w : World} {v : Value} {n : Nat} {l : List Int} (h : w.ownsRow B 5 1 v n (ivals l)) : InRow' B w v n l := by
  have hl : l.length = n := by have := h.1; rw [ivals_length] at this; omega
  rcases Nat.eq_zero_or_pos n with h0 | h0
  · subst h0
    obtain ⟨A, c, e, _⟩ := own_form h
    exact ⟨hl, Or.inl ⟨rfl, A, c, e⟩⟩
  · obtain ⟨g, cap, cs, e, hg, hB, ht, hc, hcl⟩ := own_blk h h0
    exact ⟨hl, Or.inr ⟨h0, g, cap, cs, e, hc, by omega, hg, hB, ht⟩⟩
theorem blk_rd2 {w : World} {g n : Nat} {cs : List Value} {l : List Int} (hB : Blk w g 5 cs) (ht : cs.take n = ivals l) (hl : l.length = n) : Rd w w.heap.size (some ⟨g, 0, none⟩) n (ivals l) := by
  refine ⟨by rw [ivals_length, hl], fun _ => ⟨g, 0, rfl, hB.lt, fun j u hu => ?_⟩⟩
  have hj : j < n := by
    rcases Nat.lt_or_ge j (ivals l).length with h | h
    · rwa [ivals_length, hl] at h
    · rw [List.getElem?_eq_none h] at hu; cases hu
  rw [Nat.zero_add, hB.cell, take_get ht hj]
  exact hu
theorem InRow'.rd {B : Nat} {w : World} {v : Value} {n : Nat} {l : List Int} (h : InRow' B w v n l) : ∃ A c, v = .slice A n c ∧ Rd w w.heap.size A n (ivals l) := by
  rcases h.2 with ⟨h0, A, c, e⟩ | ⟨h0, g, cap, cs, e, h2, h3, h4, h5, h6⟩
  · subst h0
    have hl : l = [] := List.eq_nil_of_length_eq_zero h.1
    subst hl
    exact ⟨A, c, e, Rd.nil⟩
  · exact ⟨_, cap, e, blk_rd2 h5 h6 h.1⟩
theorem InRow.rd {B : Nat} {w : World} {v : Value} {n : Nat} {l : List Int} (h : InRow B w v n l) : ∃ A c, v = .slice A n c ∧ Rd w w.heap.size A n (ivals l) := by
  rcases h.2 with ⟨h0, e⟩ | ⟨h0, g, cap, cs, e, h2, h3, h4, h5, h6⟩
  · subst h0
    have hl : l = [] := List.eq_nil_of_length_eq_zero h.1
    subst hl
    exact ⟨none, 0, e, Rd.nil⟩
  · exact ⟨_, cap, e, blk_rd2 h5 h6 h.1⟩

theorem blk_setCells_mid (g : Nat) (t : TypeId) : ∀ (vs old : List Value) (o : Nat) (w : World), Blk w g t old → o + vs.length ≤ old.length → Blk (w.setCells g o vs) g t (splice old o vs)
  | [], old, o, w, h, hl => by simpa [World.setCells, splice] using h
  | v :: vs, old, o, w, h, hl => by
    simp at hl
    have hb := blk_setCells_mid g t vs (old.set o v) (o + 1) (w.setCell ⟨g, o, none⟩ v) (h.set_ o v) (by simp; omega)
    have he : splice (old.set o v) (o + 1) vs = splice old o (v :: vs) := by
      have e1 : (old.set o v).take (o + 1) = old.take o ++ [v] := by
        rw [List.take_add_one, List.take_set_of_le (Nat.le_refl _), List.getElem?_set_self (by omega)]
        rfl
      have e2 : (old.set o v).drop (o + 1 + vs.length) = old.drop (o + (v :: vs).length) := by
        rw [List.drop_set_of_lt (by omega), List.length_cons, show o + 1 + vs.length = o + (vs.length + 1) by omega]
      rw [splice, splice, e1, e2]
      simp
    rw [he] at hb
    exact hb

section
variable {P : Program} {w : World} {ops : Array Oper} {rest : List Oper} {o : Oper} {a : Act} {Q : Exit → Act → World → Prop}

theorem wpList_append_none (hgd : o.guard = none) (s x : Operand) (t e : TypeId) (ho : o.op = .call { callee := .builtin .append, args := #[s, x], argTypes := #[t, t] })
    (i : TypeInfo) (ht : P.underlying t = some (.slice e)) (hi : P.info? e = some i) (b : Addr) (n cap : Nat) (hn : n ≤ cap) (hs : a.eval s = .slice (some b) n cap) (hx : a.eval x = .slice none 0 0)
    (h : wpList P ops Q rest (a.put o.dst (.slice (some b) n cap)) w) : wpList P ops Q (o :: rest) a w := by
  refine wpList_plain hgd fun K hK => ?_
  have hrun : (Builtin.append_ #[t, t] o.type #[.slice (some b) n cap, .slice none 0 0]).run P w = .ok (.slice (some b) n cap) w := by
    simp [Builtin.append_, run_underlying ht, sizeOf, typeInfo, hi, Builtin.lenOf, hn, Builtin.firstCells, loadCells, storeCells]
  unfold Oper.wp
  simp [execOp, ho, resolve, invoke, builtin, hs, hx, hrun, Result.andThen]
  exact hK _ _ h

theorem wpList_append_in (hgd : o.guard = none) (s x : Operand) (ho : o.op = .call { callee := .builtin .append, args := #[s, x], argTypes := #[22, 22] })
    (i : TypeInfo) (ht : P.underlying 22 = some (.slice 5)) (hi : P.info? 5 = some i) (hz : i.zero = some (.int .u8 0)) (hsize : i.size = 1) (hby : i.bytes = 1)
    (B : Nat) (vs vp : Value) (n m : Nat) (ls lp : List Int) (hS : InRow B w vs n ls) (hP : InRow B w vp m lp) (hs : a.eval s = vs) (hx : a.eval x = vp) (hB : B ≤ w.heap.size) (hn : n ≤ 1048576) (hm : m ≤ 1048576)
    (h : ∀ v' w', InRow' B w' v' (n + m) (ls ++ lp) → Below B w w' → wpList P ops Q rest (a.put o.dst v') w') : wpList P ops Q (o :: rest) a w := by
  obtain ⟨Ap, cp, ep, rp⟩ := hP.rd
  rcases hS.2 with ⟨h0, e⟩ | ⟨h0, g, cap, cs, e, h2, h3, h4, h5, h6⟩
  · subst h0
    have hl : ls = [] := List.eq_nil_of_length_eq_zero hS.1
    subst hl
    refine wpList_append_rd w hgd s x 22 ho B 5 i (.int .u8 0) 1 ht hi hz hsize hby rfl (.slice none 0 0) 0 [] (by rw [hs, e]) (World.ownsRow_nil _ _ _ _) w.heap.size Ap m cp (ivals lp) (by rw [hx, ep]) rp ivals_one (by omega) (by unfold maxLen; omega) hB ?_
    intro v' w' ha
    have ho' := ha.own
    rw [List.nil_append] at ho'
    exact h v' w' (inRow_of_own ho') (ha.below (Below.refl _ _) (World.ownsRow_nil _ _ _ _) hB)
  · rcases hP.2 with ⟨p0, e'⟩ | ⟨p0, g', cap', cs', e', k2, k3, k4, k5, k6⟩
    · subst p0
      have hl : lp = [] := List.eq_nil_of_length_eq_zero hP.1
      subst hl
      refine wpList_append_none hgd s x 22 5 ho i ht hi ⟨g, 0, none⟩ n cap h2 (by rw [hs, e]) (by rw [hx, e']) ?_
      refine h _ w ⟨by simpa using hS.1, Or.inr ⟨h0, g, cap, cs, rfl, h2, h3, h4, h5, by simpa using h6⟩⟩ (Below.refl _ _)
    · have hsrc : ∀ j u, (ivals lp)[j]? = some u → w.cell? ((⟨g', 0, none⟩ : Addr).add j) = some u := by
        intro j u hu
        have e1 : (⟨g', 0, none⟩ : Addr).add j = ⟨g', 0 + j, none⟩ := by unfold Addr.add; split <;> simp_all
        have hj : j < m := by
          rcases Nat.lt_or_ge j (ivals lp).length with hh | hh
          · rwa [ivals_length, hP.1] at hh
          · rw [List.getElem?_eq_none hh] at hu; cases hu
        rw [e1, Nat.zero_add, k5.cell, take_get k6 hj]
        exact hu
      refine wpList_append_arg w hgd s x 22 ho 5 i (.int .u8 0) 1 1 ht hi hz hsize hby rfl (by decide) g 0 n cap (ivals ls) (by rw [hs, e]) (by rw [ivals_length, hS.1, Nat.mul_one]) ?_ ⟨g', 0, none⟩ m cap' (ivals lp) (by rw [hx, e']) (by rw [ivals_length, hP.1, Nat.mul_one]) hsrc ivals_one ?_ (by unfold maxLen; omega) (by omega) ?_ ?_
      · intro j u hu
        have hj : j < n := by
          rcases Nat.lt_or_ge j (ivals ls).length with hh | hh
          · rwa [ivals_length, hS.1] at hh
          · rw [List.getElem?_eq_none hh] at hu; cases hu
        rw [Nat.zero_add, h5.cell, take_get h6 hj]
        exact hu
      · intro hroom j hj
        rw [ivals_length, hP.1] at hj
        simp only [Nat.mul_one, Nat.zero_add]
        rw [h5.cell, List.getElem?_eq_getElem (by omega)]
        exact ⟨rfl, h5.frozen _⟩
      · intro hroom
        have hfit : n + (ivals lp).length ≤ cs.length := by rw [ivals_length, hP.1]; omega
        have hb := blk_setCells_mid g 5 (ivals lp) cs n w h5 hfit
        have hgr := (grown_setCells g (ivals lp) n w w (World.grownBy.refl w _)).1
        simp only [Nat.mul_one, Nat.zero_add]
        refine h _ _ ⟨by rw [List.length_append, hS.1, hP.1], Or.inr ⟨by omega, g, cap, _, rfl, hroom, ?_, h4, hb, ?_⟩⟩ (below_of_grown hgr h4 hB)
        · rw [length_splice _ _ _ hfit]; exact h3
        · rw [splice, h6, ← List.append_assoc, ← ivals_append]
          exact List.take_left' (by rw [ivals_length, List.length_append, hS.1, hP.1])
      · intro hgrow v' w' ho' hg'
        rw [← ivals_append] at ho'
        have hr := inRow_of_own ho'
        refine h v' w' ⟨hr.1, ?_⟩ ⟨hg'.os, hg'.tape, hg'.output, hg'.size, fun k hk => hg'.block k (by omega) (fun e => by cases e)⟩
        rcases hr.2 with hh | ⟨q0, q1, q2, q3, q4, q5, q6, q7, q8, q9⟩
        · exact Or.inl hh
        · exact Or.inr ⟨q0, q1, q2, q3, q4, q5, q6, Nat.le_trans hB q7, q8, q9⟩
end
end Go.Proofs.YtlnifplomlnoiaaDoor
