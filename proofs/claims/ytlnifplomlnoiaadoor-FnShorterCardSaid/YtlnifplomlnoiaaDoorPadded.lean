/- zzPadded at blocks of 64 bytes: the text, a bit, noughts, and its length in bits, in new memory. Texts of at most 2^20 bytes. -/
import Derived.Test.YtlnifplomlnoiaaDoorBE
import Derived.Test.YtlnifplomlnoiaaDoorFew
namespace Go.Proofs.YtlnifplomlnoiaaDoor
open Go.RowKit

/-- How many noughts. -/
def padK (n : Nat) : Nat := (n + 72) / 64 * 64 - 9 - n
def withZeros (l : List Int) (j : Nat) : List Int := l ++ [128] ++ List.replicate j 0
def pad1 (l : List Int) : List Int := withZeros l (padK l.length) ++ be8 ((l.length : Int) * 8)
theorem withZeros_succ (l : List Int) (j : Nat) : withZeros l (j + 1) = withZeros l j ++ [0] := by simp [withZeros, List.replicate_succ']
theorem withZeros_length (l : List Int) (j : Nat) : (withZeros l j).length = l.length + 1 + j := by simp [withZeros]; omega
theorem pad1_length (l : List Int) : (pad1 l).length = (l.length + 72) / 64 * 64 := by
  rw [pad1, List.length_append, withZeros_length, show (be8 ((l.length : Int) * 8)).length = 8 from rfl, padK]
  omega
theorem ivals_length (l : List Int) : (ivals l).length = l.length := by simp [ivals]

set_option maxRecDepth 100000 in
set_option maxHeartbeats 4000000 in
theorem padded_any (A : Option Addr) (n c : Nat) (l : List Int) (w : World) (B : Nat) (hr : Rd w B A n (ivals l)) (hn : n ≤ 1048576) :
    Calls Tryd.prog 82 #[.slice A n c, .int .i64 64] w fun E w' => ∃ v, E = .returned v ∧ w'.ownsRow w.heap.size 5 1 v (pad1 l).length (ivals (pad1 l)) ∧ Below w.heap.size w w' := by
  obtain ⟨j0, hj, hy0, hy1, hy2⟩ := info_parts info5b
  have hl : l.length = n := by rw [← ivals_length]; exact hr.1
  have HL := Lib.hid hl
  have HR := Lib.hid hr
  clear hl hr
  go_enter Tryd.func82, Tryd.ntmps82
  go_wp2_with (at_builtin; first
    | (refine wpList_append_rd _ rfl _ _ 22 rfl w.heap.size 5 j0 (.int .u8 0) 1 Tryd.underlying22 hj hy0 hy1 hy2 rfl (.slice none 0 0) 0 [] rfl (World.ownsRow_nil _ _ _ _) B A n c (ivals l) rfl HR.out ivals_one (by omega) (by unfold maxLen; omega) (Nat.le_refl _) ?_; intro v1 w1 ha1; replace ha1 := Lib.hid ha1; have hB1 : Hid (Below w.heap.size w w1) := ha1.out.below (Below.refl _ _) (World.ownsRow_nil _ _ _ _) (Nat.le_refl _); have ho1 : Hid (w1.ownsRow w.heap.size 5 1 v1 n (ivals l)) := (by have h := ha1.out.own; rw [Nat.zero_add, List.nil_append] at h; exact h))
    | (refine wpList_append_rd _ rfl _ _ 22 rfl w.heap.size 5 j0 (.int .u8 0) 1 Tryd.underlying22 hj hy0 hy1 hy2 rfl v1 n (ivals l) rfl (ho1.out.alloc _) (w1.heap.size + 1) _ 1 1 (ivals [128]) rfl (rd_new w1 (ivals [128]).toArray 5 1 rfl) ivals_one (by omega) (by unfold maxLen; omega) (by have := hB1.out.size; simp; omega) ?_; intro v2 w2 ha2; replace ha2 := Lib.hid ha2; have hB2 : Hid (Below w.heap.size w w2) := ha2.out.below (hB1.out.alloc hB1.out.size _) (ho1.out.alloc _) (by have := hB1.out.size; simp; omega)))
  have HO : Hid (w2.ownsRow w.heap.size 5 1 v2 (n + 1 + 0) (ivals (withZeros l 0))) := by
    have h := ha2.out.own
    rw [← ivals_append] at h
    show World.ownsRow _ _ _ _ _ _ _
    simpa [withZeros] using h
  clear ha1 ho1 hB1 ha2
  obtain ⟨K, HK⟩ : ∃ K, Hid (K = padK n) := ⟨_, rfl⟩
  go_loopw [5] (fun v wr => ∃ j : Nat, Hid (j ≤ K) ∧ (∃ A c, v = .slice A (n + 1 + j) c) ∧ Hid (wr.ownsRow w.heap.size 5 1 v (n + 1 + j) (ivals (withZeros l j))) ∧ Hid (Below w.heap.size w wr)) (fun v _ => match v with | .slice _ m _ => n + 1 + K - m | _ => 0)
  case atStart =>
    obtain ⟨A', c', e, _⟩ := own_form HO.out
    exact ⟨0, Nat.zero_le _, ⟨A', c', e⟩, HO, hB2⟩
  case round =>
    clear HO hB2
    obtain ⟨j, hjK, ⟨A', c', rfl⟩, HOw, HBw⟩ := hrel
    obtain ⟨m, hm⟩ : ∃ m, n + 1 + j = m := ⟨_, rfl⟩
    rw [hm] at HOw ⊢
    have HM := Lib.hid hm
    have hm1 : m ≤ 2097152 := by have h1 := hjK.out; have h2 := HK.out; unfold padK at h2; omega
    obtain ⟨q, hq, Hq⟩ : ∃ q : Nat, Int.tmod (m : Int) 64 = (q : Int) ∧ Hid (q = m % 64) := ⟨m % 64, by rw [Int.tmod_eq_emod_of_nonneg (by omega)]; omega, rfl⟩
    have hq64 : q < 64 := by rw [Hq.out]; omega
    have wq : IntKind.i64.wrap (q : Int) = (q : Int) := IntWalk.i64_in _ (by omega)
    clear hm
    by_cases hlt : j < K
    · have d1 : ((q : Int) != 56) = true := by
        have h1 := HK.out; have h2 := HM.out; have h3 := Hq.out; unfold padK at h1
        rw [bne_iff_ne]; omega
      clear hq64
      go_wp2_with (at_builtin; refine wpList_append_rd _ rfl _ _ 22 rfl w.heap.size 5 j0 (.int .u8 0) 1 Tryd.underlying22 hj hy0 hy1 hy2 rfl _ m (ivals (withZeros l j)) rfl (HOw.out.alloc _) (wr.heap.size + 1) _ 1 1 (ivals [0]) rfl (rd_new wr (ivals [0]).toArray 5 1 rfl) ivals_one (by omega) (by unfold maxLen; omega) (by have := HBw.out.size; simp; omega) ?_; intro v2 w2 ha2; replace ha2 := Lib.hid ha2)
      go_roundw
      case rel =>
        have h := ha2.out.own
        rw [← ivals_append, ← withZeros_succ] at h
        obtain ⟨A2, c2, e, _⟩ := own_form h
        have em : n + 1 + (j + 1) = m + 1 := by have := HM.out; omega
        refine ⟨j + 1, hlt, ⟨A2, c2, by rw [em]; exact e⟩, ?_, ?_⟩
        · rw [em]; exact h
        · exact ha2.out.below (HBw.out.alloc HBw.out.size _) (HOw.out.alloc _) (by have := HBw.out.size; simp; omega)
      case measure =>
        obtain ⟨A2, c2, e, _⟩ := own_form ha2.out.own
        subst e
        have := HM.out
        simp only
        omega
    · have d1 : ((q : Int) != 56) = false := by
        have h1 := HK.out; have h2 := HM.out; have h3 := Hq.out; have h4 := hjK.out; unfold padK at h1
        have : (q : Int) = 56 := by omega
        rw [this]; rfl
      have hjk : j = padK l.length := by have h1 := HK.out; have h2 := hjK.out; rw [HL.out]; omega
      have HJ := Lib.hid hjk
      clear hq64 hjk hlt
      obtain ⟨z, hz⟩ : ∃ z : Int, (n : Int) * 8 = z := ⟨_, rfl⟩
      have wz : IntKind.u64.wrap z = z := IntWalk.u64_in _ (by omega)
      have wn : IntKind.u64.wrap (n : Int) = (n : Int) := IntWalk.u64_in _ (by omega)
      go_wp2_with fail
      refine (beAppend64_any w.heap.size m _ (ivals (withZeros l j)) z wr HOw.out HBw.out.size (by omega)).mono ?_
      rintro E w3 ⟨v, rfl, ho, hb⟩
      have HO3 := Lib.hid ho
      clear ho
      go_wp2_with fail
      go_ret
      refine ⟨v, rfl, ?_, HBw.out.trans hb⟩
      have h := HO3.out
      rw [← ivals_append] at h
      have e1 : withZeros l j ++ be8 z = pad1 l := by rw [pad1, ← HJ.out, HL.out, hz]
      rw [e1] at h
      have e2 : (pad1 l).length = m + 8 := by
        have h1 := h.1
        rw [ivals_length] at h1
        omega
      rw [e2]
      exact h
end Go.Proofs.YtlnifplomlnoiaaDoor
