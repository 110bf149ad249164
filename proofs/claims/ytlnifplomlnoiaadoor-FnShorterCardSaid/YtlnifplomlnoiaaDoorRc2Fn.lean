/- RC2's rounds as functions on whole numbers: a round of mixing, a round of mashing, and both undone. -/
import Derived.Test.YtlnifplomlnoiaaDoorW16
namespace Go.Proofs.YtlnifplomlnoiaaDoor
open Go.RowKit

/-- Four words. -/
abbrev S4 := Int × Int × Int × Int
/-- Each below 2^16. -/
def Ok4 (s : S4) : Prop := (0 ≤ s.1 ∧ s.1 ≤ 65535) ∧ (0 ≤ s.2.1 ∧ s.2.1 ≤ 65535) ∧ (0 ≤ s.2.2.1 ∧ s.2.2.1 ≤ 65535) ∧ (0 ≤ s.2.2.2 ∧ s.2.2.2 ≤ 65535)

/-- What is added to a word: b, c, d are the next three. -/
def addI (b c d k : Int) : Int := k + bits .and .u16 d c + bits .and .u16 (65535 - d) b
def mixI (a b c d k : Int) : Int := (a + addI b c d k) % 65536
def rnd (K : Nat → Int) (j : Nat) : S4 → S4
  | (a, b, c, d) =>
    let a' := rotI 2 32768 (mixI a b c d (K j))
    let b' := rotI 4 16384 (mixI b c d a' (K (j + 1)))
    let c' := rotI 8 8192 (mixI c d a' b' (K (j + 2)))
    let d' := rotI 32 2048 (mixI d a' b' c' (K (j + 3)))
    (a', b', c', d')
/-- So many rounds, from word j of the key on. -/
def rnds (K : Nat → Int) (j : Nat) : Nat → S4 → S4
  | 0, s => s
  | n + 1, s => rnd K (j + 4 * n) (rnds K j n s)
def mash (K : Nat → Int) : S4 → S4
  | (a, b, c, d) =>
    let a' := (a + K (d % 64).toNat) % 65536
    let b' := (b + K (a' % 64).toNat) % 65536
    let c' := (c + K (b' % 64).toNat) % 65536
    let d' := (d + K (c' % 64).toNat) % 65536
    (a', b', c', d')
def encS (K : Nat → Int) (s : S4) : S4 := rnds K 44 5 (mash K (rnds K 20 6 (mash K (rnds K 0 5 s))))

/-- Undone: j is the round's last word of the key. -/
def unmixI (a b c d k : Int) : Int := (a - addI b c d k) % 65536
def unrnd (K : Nat → Int) (j : Nat) : S4 → S4
  | (a, b, c, d) =>
    let d' := unmixI (rotI 2048 32 d) a b c (K j)
    let c' := unmixI (rotI 8192 8 c) d' a b (K (j - 1))
    let b' := unmixI (rotI 16384 4 b) c' d' a (K (j - 2))
    let a' := unmixI (rotI 32768 2 a) b' c' d' (K (j - 3))
    (a', b', c', d')
def unrnds (K : Nat → Int) (j : Nat) : Nat → S4 → S4
  | 0, s => s
  | n + 1, s => unrnd K (j - 4 * n) (unrnds K j n s)
def unmash (K : Nat → Int) : S4 → S4
  | (a, b, c, d) =>
    let d' := (d - K (c % 64).toNat) % 65536
    let c' := (c - K (b % 64).toNat) % 65536
    let b' := (b - K (a % 64).toNat) % 65536
    let a' := (a - K (d' % 64).toNat) % 65536
    (a', b', c', d')
def decS (K : Nat → Int) (s : S4) : S4 := unrnds K 19 5 (unmash K (unrnds K 43 6 (unmash K (unrnds K 63 5 s))))

theorem w16 (n : Int) : IntKind.u16.wrap n = n % 65536 := IntKind.wrap_u16 n
theorem w16_nn (n : Int) : 0 ≤ IntKind.u16.wrap n := by rw [w16]; omega
theorem w16_le (n : Int) : IntKind.u16.wrap n ≤ 65535 := by rw [w16]; omega
theorem mix_eq (a b c d k : Int) : IntKind.u16.wrap (IntKind.u16.wrap (IntKind.u16.wrap (a + k) + bits .and .u16 d c) + bits .and .u16 (65535 - d) b) = mixI a b c d k := by
  unfold mixI addI
  rw [w16, w16, w16]
  omega
theorem unmix_eq (a b c d k : Int) : IntKind.u16.wrap (IntKind.u16.wrap (IntKind.u16.wrap (a - k) - bits .and .u16 d c) - bits .and .u16 (65535 - d) b) = unmixI a b c d k := by
  unfold unmixI addI
  rw [w16, w16, w16]
  omega
theorem mixI_ok (a b c d k : Int) : 0 ≤ mixI a b c d k ∧ mixI a b c d k ≤ 65535 := by unfold mixI; omega
theorem unmixI_ok (a b c d k : Int) : 0 ≤ unmixI a b c d k ∧ unmixI a b c d k ≤ 65535 := by unfold unmixI; omega
theorem unmix_mix (a b c d k : Int) (h0 : 0 ≤ a) (h1 : a ≤ 65535) : unmixI (mixI a b c d k) b c d k = a := by unfold unmixI mixI; omega

theorem rnd_ok (K : Nat → Int) (j : Nat) (s : S4) : Ok4 (rnd K j s) := by
  obtain ⟨a, b, c, d⟩ := s
  have m := fun a b c d k => mixI_ok a b c d k
  exact ⟨bound_1 _ (m _ _ _ _ _).1 (m _ _ _ _ _).2, bound_2 _ (m _ _ _ _ _).1 (m _ _ _ _ _).2, bound_3 _ (m _ _ _ _ _).1 (m _ _ _ _ _).2, bound_5 _ (m _ _ _ _ _).1 (m _ _ _ _ _).2⟩
theorem rnds_ok (K : Nat → Int) (j n : Nat) (s : S4) (h : Ok4 s) : Ok4 (rnds K j n s) := by
  cases n with
  | zero => exact h
  | succ n => exact rnd_ok _ _ _
theorem mash_ok (K : Nat → Int) (s : S4) : Ok4 (mash K s) := by
  obtain ⟨a, b, c, d⟩ := s
  simp only [mash, Ok4]
  omega
theorem unrnd_ok (K : Nat → Int) (j : Nat) (s : S4) : Ok4 (unrnd K j s) := by
  obtain ⟨a, b, c, d⟩ := s
  exact ⟨unmixI_ok _ _ _ _ _, unmixI_ok _ _ _ _ _, unmixI_ok _ _ _ _ _, unmixI_ok _ _ _ _ _⟩
theorem unrnds_ok (K : Nat → Int) (j n : Nat) (s : S4) (h : Ok4 s) : Ok4 (unrnds K j n s) := by
  cases n with
  | zero => exact h
  | succ n => exact unrnd_ok _ _ _
theorem unmash_ok (K : Nat → Int) (s : S4) : Ok4 (unmash K s) := by
  obtain ⟨a, b, c, d⟩ := s
  simp only [unmash, Ok4]
  omega
theorem encS_ok (K : Nat → Int) (s : S4) : Ok4 (encS K s) := rnds_ok _ _ _ _ (mash_ok _ _)
theorem decS_ok (K : Nat → Int) (s : S4) : Ok4 (decS K s) := unrnds_ok _ _ _ _ (unmash_ok _ _)

theorem unrnd_rnd (K : Nat → Int) (j : Nat) (s : S4) (h : Ok4 s) : unrnd K (j + 3) (rnd K j s) = s := by
  obtain ⟨a, b, c, d⟩ := s
  obtain ⟨ha, hb, hc, hd⟩ := h
  have m := fun a b c d k => mixI_ok a b c d k
  simp only [rnd, unrnd, Nat.add_sub_cancel, show j + 3 - 1 = j + 2 by omega, show j + 3 - 2 = j + 1 by omega]
  rw [back_5 _ (m _ _ _ _ _).1 (m _ _ _ _ _).2, unmix_mix _ _ _ _ _ hd.1 hd.2, back_3 _ (m _ _ _ _ _).1 (m _ _ _ _ _).2, unmix_mix _ _ _ _ _ hc.1 hc.2,
    back_2 _ (m _ _ _ _ _).1 (m _ _ _ _ _).2, unmix_mix _ _ _ _ _ hb.1 hb.2, back_1 _ (m _ _ _ _ _).1 (m _ _ _ _ _).2, unmix_mix _ _ _ _ _ ha.1 ha.2]
theorem unmash_mash (K : Nat → Int) (s : S4) (h : Ok4 s) : unmash K (mash K s) = s := by
  obtain ⟨a, b, c, d⟩ := s
  obtain ⟨ha, hb, hc, hd⟩ := h
  have e : ∀ x k : Int, 0 ≤ x → x ≤ 65535 → ((x + k) % 65536 - k) % 65536 = x := fun x k h0 h1 => by omega
  simp only [mash, unmash]
  rw [e d _ hd.1 hd.2, e c _ hc.1 hc.2, e b _ hb.1 hb.2, e a _ ha.1 ha.2]
theorem unrnds_rnds (K : Nat → Int) (j : Nat) : ∀ (n : Nat) (s : S4), Ok4 s → unrnds K (j + 4 * n - 1) n (rnds K j n s) = s
  | 0, s, _ => rfl
  | n + 1, s, h => by
    have step : ∀ (m i : Nat) (t : S4), unrnds K (i + 4) (m + 1) t = unrnds K i m (unrnd K (i + 4) t) := by
      intro m
      induction m with
      | zero => intro i t; rfl
      | succ m ih =>
        intro i t
        rw [unrnds, ih, unrnds]
        congr 1
        omega
    have h3 : unrnd K (j + 4 * n + 3) (rnd K (j + 4 * n) (rnds K j n s)) = rnds K j n s := unrnd_rnd K _ _ (rnds_ok K j n s h)
    cases n with
    | zero =>
      show unrnd K _ _ = s
      exact h3
    | succ n =>
      rw [show j + 4 * (n + 1 + 1) - 1 = (j + 4 * (n + 1) - 1) + 4 by omega, step]
      have h4 := unrnds_rnds K j (n + 1) s h
      rw [rnds, show j + 4 * (n + 1) - 1 + 4 = j + 4 * (n + 1) + 3 by omega, h3]
      exact h4
theorem dec_enc (K : Nat → Int) (s : S4) (h : Ok4 s) : decS K (encS K s) = s := by
  unfold decS encS
  have e1 := unrnds_rnds K 44 5 (mash K (rnds K 20 6 (mash K (rnds K 0 5 s)))) (mash_ok _ _)
  have e2 := unmash_mash K (rnds K 20 6 (mash K (rnds K 0 5 s))) (rnds_ok _ _ _ _ (mash_ok _ _))
  have e3 := unrnds_rnds K 20 6 (mash K (rnds K 0 5 s)) (mash_ok _ _)
  have e4 := unmash_mash K (rnds K 0 5 s) (rnds_ok _ _ _ _ h)
  have e5 := unrnds_rnds K 0 5 s h
  rw [show 44 + 4 * 5 - 1 = 63 from rfl] at e1
  rw [show 20 + 4 * 6 - 1 = 43 from rfl] at e3
  rw [show 0 + 4 * 5 - 1 = 19 from rfl] at e5
  rw [e1, e2, e3, e4, e5]
end Go.Proofs.YtlnifplomlnoiaaDoor
