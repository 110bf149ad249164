/- Plain law: a text none of whose runes is the sign for a fault is its runes' UTF-8 bytes, one behind the other; and each rune of a text is a Unicode scalar value. -/
import Derived.Test.YtlnifplomlnoiaaRunes
import Derived.Laws.Cover4
namespace Go.Proofs.Ytlnifplomlnoiaa
open Go.RowKit

theorem decode_valid (s : ByteArray) (pos : Nat) : Utf8.valid ((Utf8.decode s pos).1 : Int) = true := by
  have hb : ∀ k, (s.get! (pos + k)).toNat < 256 := fun k => (s.get! (pos + k)).toNat_lt
  have h0 := hb 0; have h1 := hb 1; have h2 := hb 2; have h3 := hb 3
  simp only [Utf8.decode]
  repeat' split
  all_goals simp_all [Utf8.runeError, Utf8.valid]
  all_goals omega

theorem get_bang (s : ByteArray) (i : Nat) (h : i < s.size) : s.data[i]'h = s.get! i := by
  simp [ByteArray.get!, h]

theorem ext1 (s : ByteArray) (p : Nat) (h : p < s.size) : s.extract p (p + 1) = ⟨#[s.get! p]⟩ := by
  apply ByteArray.ext
  rw [ByteArray.data_extract]
  apply Array.ext
  · simp; have : s.data.size = s.size := rfl; omega
  · intro i h1 h2
    simp at h2
    subst h2
    simp only [Array.getElem_extract, Nat.add_zero]
    rw [get_bang s p h]; rfl
theorem ext2 (s : ByteArray) (p : Nat) (h : p + 1 < s.size) : s.extract p (p + 2) = ⟨#[s.get! p, s.get! (p + 1)]⟩ := by
  apply ByteArray.ext
  rw [ByteArray.data_extract]
  apply Array.ext
  · simp; have : s.data.size = s.size := rfl; omega
  · intro i h1 h2
    simp at h2
    simp only [Array.getElem_extract]
    match i, h2 with
    | 0, _ => exact (get_bang s p (by omega)).trans rfl
    | 1, _ => rw [get_bang s (p + 1) (by omega)]; rfl
theorem ext3 (s : ByteArray) (p : Nat) (h : p + 2 < s.size) : s.extract p (p + 3) = ⟨#[s.get! p, s.get! (p + 1), s.get! (p + 2)]⟩ := by
  apply ByteArray.ext
  rw [ByteArray.data_extract]
  apply Array.ext
  · simp; have : s.data.size = s.size := rfl; omega
  · intro i h1 h2
    simp at h2
    simp only [Array.getElem_extract]
    match i, h2 with
    | 0, _ => exact (get_bang s p (by omega)).trans rfl
    | 1, _ => rw [get_bang s (p + 1) (by omega)]; rfl
    | 2, _ => rw [get_bang s (p + 2) (by omega)]; rfl
theorem ext4 (s : ByteArray) (p : Nat) (h : p + 3 < s.size) : s.extract p (p + 4) = ⟨#[s.get! p, s.get! (p + 1), s.get! (p + 2), s.get! (p + 3)]⟩ := by
  apply ByteArray.ext
  rw [ByteArray.data_extract]
  apply Array.ext
  · simp; have : s.data.size = s.size := rfl; omega
  · intro i h1 h2
    simp at h2
    simp only [Array.getElem_extract]
    match i, h2 with
    | 0, _ => exact (get_bang s p (by omega)).trans rfl
    | 1, _ => rw [get_bang s (p + 1) (by omega)]; rfl
    | 2, _ => rw [get_bang s (p + 2) (by omega)]; rfl
    | 3, _ => rw [get_bang s (p + 3) (by omega)]; rfl

theorem of_toNat (b : UInt8) (n : Nat) (h : n = b.toNat) : UInt8.ofNat n = b := by subst h; simp

/-- What encode gives, by the rune's size. -/
theorem enc_1 (c : Nat) (h : c < 128) : Utf8.encode (c : Int) = ⟨#[UInt8.ofNat c]⟩ := by
  have hv : Utf8.valid (c : Int) = true := by simp [Utf8.valid]; omega
  unfold Utf8.encode
  simp only [hv, if_true, Int.toNat_natCast]
  rw [if_pos h]
theorem enc_2 (c : Nat) (hv : Utf8.valid (c : Int) = true) (h1 : 128 ≤ c) (h : c < 2048) : Utf8.encode (c : Int) = ⟨#[UInt8.ofNat (192 + c / 64), UInt8.ofNat (128 + c % 64)]⟩ := by
  unfold Utf8.encode
  simp only [hv, if_true, Int.toNat_natCast]
  rw [if_neg (by omega), if_pos h]
theorem enc_3 (c : Nat) (hv : Utf8.valid (c : Int) = true) (h1 : 2048 ≤ c) (h : c < 65536) : Utf8.encode (c : Int) = ⟨#[UInt8.ofNat (224 + c / 4096), UInt8.ofNat (128 + c / 64 % 64), UInt8.ofNat (128 + c % 64)]⟩ := by
  unfold Utf8.encode
  simp only [hv, if_true, Int.toNat_natCast]
  rw [if_neg (by omega), if_neg (by omega), if_pos h]
theorem enc_4 (c : Nat) (hv : Utf8.valid (c : Int) = true) (h1 : 65536 ≤ c) : Utf8.encode (c : Int) = ⟨#[UInt8.ofNat (240 + c / 262144), UInt8.ofNat (128 + c / 4096 % 64), UInt8.ofNat (128 + c / 64 % 64), UInt8.ofNat (128 + c % 64)]⟩ := by
  unfold Utf8.encode
  simp only [hv, if_true, Int.toNat_natCast]
  rw [if_neg (by omega), if_neg (by omega), if_neg (by omega)]

theorem encode_decode (s : ByteArray) (pos : Nat) (hp : pos < s.size) (hr : (Utf8.decode s pos).1 ≠ 65533) :
    pos + (Utf8.decode s pos).2 ≤ s.size ∧ Utf8.encode ((Utf8.decode s pos).1 : Int) = s.extract pos (pos + (Utf8.decode s pos).2) := by
  have hv := decode_valid s pos
  have h0 := (s.get! pos).toNat_lt
  have h1 := (s.get! (pos + 1)).toNat_lt
  have h2 := (s.get! (pos + 2)).toNat_lt
  have h3 := (s.get! (pos + 3)).toNat_lt
  revert hr hv
  simp only [Utf8.decode, Nat.add_zero]
  split
  · intro hr hv
    refine ⟨by simp; omega, ?_⟩
    rw [enc_1 _ (by assumption), ext1 s pos hp, of_toNat _ _ rfl]
  · split
    · rename_i hc
      simp only [Bool.and_eq_true, beq_iff_eq, decide_eq_true_eq] at hc
      split
      · intro hr hv
        refine ⟨by simp; omega, ?_⟩
        rw [enc_2 _ hv (by assumption) (by omega), ext2 s pos (by omega), of_toNat (s.get! pos) _ (by omega), of_toNat (s.get! (pos + 1)) _ (by omega)]
      · intro hr; exact absurd rfl hr
    · split
      · rename_i hc
        simp only [Bool.and_eq_true, beq_iff_eq, decide_eq_true_eq] at hc
        split
        · rename_i hc2
          simp only [Bool.and_eq_true, decide_eq_true_eq] at hc2
          intro hr hv
          refine ⟨by simp; omega, ?_⟩
          rw [enc_3 _ hv hc2.1 (by omega), ext3 s pos (by omega), of_toNat (s.get! pos) _ (by omega), of_toNat (s.get! (pos + 1)) _ (by omega), of_toNat (s.get! (pos + 2)) _ (by omega)]
        · intro hr; exact absurd rfl hr
      · split
        · rename_i hc
          simp only [Bool.and_eq_true, beq_iff_eq, decide_eq_true_eq] at hc
          split
          · rename_i hc2
            simp only [Bool.and_eq_true, decide_eq_true_eq] at hc2
            intro hr hv
            refine ⟨by simp; omega, ?_⟩
            rw [enc_4 _ hv hc2.1, ext4 s pos (by omega), of_toNat (s.get! pos) _ (by omega), of_toNat (s.get! (pos + 1)) _ (by omega), of_toNat (s.get! (pos + 2)) _ (by omega), of_toNat (s.get! (pos + 3)) _ (by omega)]
          · intro hr; exact absurd rfl hr
        · intro hr; exact absurd rfl hr

theorem foldl_enc (l : List Int) : ∀ b : ByteArray, l.foldl (fun r n => r ++ Utf8.encode n) b = b ++ runesBytes l := by
  induction l with
  | nil => intro b; simp [runesBytes]
  | cons n l ih =>
    intro b
    simp only [runesBytes, List.foldl_cons]
    rw [ih, ih (ByteArray.empty ++ _)]
    simp [ByteArray.append_assoc]
theorem runesBytes_cons (n : Int) (l : List Int) : runesBytes (n :: l) = Utf8.encode n ++ runesBytes l := by
  rw [runesBytes, List.foldl_cons, foldl_enc]
  simp

theorem runes_back (s : ByteArray) : ∀ (f pos : Nat), pos ≤ s.size → s.size - pos ≤ f → (∀ r ∈ runes s f pos, r ≠ 65533) →
    runesBytes ((runes s f pos).map fun (r : Nat) => (r : Int)) = s.extract pos s.size
  | 0, pos, hp, hf, _ => by
    have : pos = s.size := by omega
    subst this
    simp [runes, runesBytes]
  | f + 1, pos, hp, hf, hr => by
    by_cases hlt : pos < s.size
    · rw [runes_step s f pos hlt] at hr ⊢
      have hw := decode_width s pos
      obtain ⟨h1, h2⟩ := encode_decode s pos hlt (hr _ (by simp))
      have ih := runes_back s f (pos + (Utf8.decode s pos).2) h1 (by omega) (fun r h => hr r (by simp [h]))
      rw [List.map_cons, runesBytes_cons, ih, h2]
      rw [ByteArray.extract_append_extract, Nat.min_eq_left (by omega), Nat.max_eq_right h1]
    · have : pos = s.size := by omega
      subst this
      rw [runes_end s _ _ (by omega)]
      simp [runesBytes]

theorem R_back (s : ByteArray) (hr : ∀ r ∈ R s, r ≠ 65533) : runesBytes ((R s).map fun (r : Nat) => (r : Int)) = s := by
  have := runes_back s s.size 0 (Nat.zero_le _) (by omega) hr
  simpa [R] using this
end Go.Proofs.Ytlnifplomlnoiaa
