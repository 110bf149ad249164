/- impl.RC2: a block turned by a new cipher, in new memory. The key has 1 to 128 bytes, the bits are 1 to 1024, the block has eight bytes. -/
import Derived.Test.YtlnifplomlnoiaaDoorNew
import Derived.Test.YtlnifplomlnoiaaDoorDecrypt
import Derived.Test.YtlnifplomlnoiaaDoorSmall
namespace Go.Proofs.YtlnifplomlnoiaaDoor
open Go.RowKit

theorem own_form2 {w : World} {base : Nat} {e : TypeId} {v : Value} {n : Nat} {xs : List Value} (h : w.ownsRow base e 1 v n xs) : ∃ A c, v = .slice A n c ∧ n ≤ c ∧ Rd w w.heap.size A n xs := by
  have h' := h
  rcases h.2 with ⟨rfl, rfl⟩ | ⟨g, cap, cur, rfl, _, _, hc, _⟩
  · exact ⟨none, 0, rfl, Nat.le_refl _, Rd.of_own h'⟩
  · exact ⟨_, cap, rfl, hc, Rd.of_own h'⟩

def nums (l : List UInt8) : List Nat := l.map (·.toNat)
def ints (l : List UInt8) : List Int := l.map fun b => (b.toNat : Int)
theorem nvals_nums (l : List UInt8) : nvals .u8 (nums l) = bvals l := by
  simp [nvals, nums, bvals, bval, Function.comp_def]
theorem ivals_ints (l : List UInt8) : ivals (ints l) = bvals l := by
  simp [ivals, ints, bvals, bval, Function.comp_def]
theorem nums_le {l : List UInt8} : ∀ x ∈ nums l, x ≤ 255 := by
  intro x hx
  simp only [nums, List.mem_map] at hx
  obtain ⟨b, _, rfl⟩ := hx
  have := b.toNat_lt
  omega
theorem ints_le {l : List UInt8} : ∀ x ∈ ints l, 0 ≤ x ∧ x ≤ 255 := by
  intro x hx
  simp only [ints, List.mem_map] at hx
  obtain ⟨b, _, rfl⟩ := hx
  have := b.toNat_lt
  omega

/-- The key's words. -/
def Kof (T : Nat → Nat) (key : List UInt8) (t1 : Nat) : Nat → Int := fun j => ((expanded T (nums key) t1).getD j 0 : Nat)
theorem keyAt_of_blk {w : World} {g : Nat} {T : Nat → Nat} {key : List UInt8} {t1 : Nat} (h : Blk w g 78 (nvals .u16 (expanded T (nums key) t1))) : KeyAt w g (Kof T key t1) := fun j hj => by
  rw [h.cell, nvals_getD (by rw [expanded_length]; exact hj)]
  rfl
/-- The block turned, one way or the other. -/
def crypt (enc : Bool) (K : Nat → Int) (s : S4) : S4 := if enc then encS K s else decS K s

theorem nil_enc (a : Addr) (w : World) : (nilAhead 293 73 (.pointer (some a)) "Encrypt").run Tryd.prog w = .ok (some false) w := by kernel_rfl
theorem nil_dec (a : Addr) (w : World) : (nilAhead 293 73 (.pointer (some a)) "Decrypt").run Tryd.prog w = .ok (some false) w := by kernel_rfl
theorem method_enc (a : Addr) (w : World) : (method 293 73 (.pointer (some a)) "Encrypt").run Tryd.prog w = .ok (124, .pointer (some a)) w := by kernel_rfl
theorem method_dec (a : Addr) (w : World) : (method 293 73 (.pointer (some a)) "Decrypt").run Tryd.prog w = .ok (123, .pointer (some a)) w := by kernel_rfl

theorem copied8 (A : Option Addr) (c : Nat) (bs : List UInt8) (w : World) (B : Nat) (hr : Rd w B A 8 (bvals bs)) :
    Calls Tryd.prog 31 #[.slice A 8 c] w fun E w' => ∃ g c', E = .returned (.slice (some ⟨g, 0, none⟩) 8 c') ∧ 8 ≤ c' ∧ Hid (Rd w' w'.heap.size (some ⟨g, 0, none⟩) 8 (bvals bs)) ∧ Hid (Below w.heap.size w w') := by
  refine (copied_any A 8 c bs w B hr (by omega)).mono ?_
  rintro E w' ⟨v, rfl, ho, hb⟩
  have h8 : bs.length = 8 := by rw [← bvals_length]; exact hr.1
  have h' := ho
  rw [h8] at ho
  rcases ho.2 with ⟨_, h⟩ | ⟨g, cap, cur, rfl, _, _, hc, _⟩
  · exact absurd h (by omega)
  · exact ⟨g, cap, rfl, hc, Rd.of_own ho, hb⟩

set_option maxRecDepth 1000000 in
set_option maxHeartbeats 4000000 in
theorem rc2_any (T : Nat → Nat) (A A2 : Option Addr) (n c c2 t1 : Nat) (enc : Bool) (key blk : List UInt8) (w : World) (hT : TabAt w T) (hTb : ∀ x, T x ≤ 255) (hr : Rd w w.heap.size A n (bvals key)) (hr2 : Rd w w.heap.size A2 8 (bvals blk))
    (hn0 : 1 ≤ n) (hn : n ≤ 128) (ht0 : 1 ≤ t1) (ht1 : t1 ≤ 1024) :
    Calls Tryd.prog 13 #[.slice A n c, .int .i64 (t1 : Int), .slice A2 8 c2, .bool enc] w fun E w' => ∃ g, E = .returned (.tuple #[.slice (some ⟨g, 0, none⟩) 8 8, .bool true]) ∧ w.heap.size ≤ g ∧
      Blk w' g 5 (ivals (block (crypt enc (Kof T key t1) (words (ints blk))))) ∧ Below w.heap.size w w' := by
  obtain ⟨j0, hj, hy0, hy1, hy2⟩ := info_parts info5e
  have n1 : (1 : Int) ≤ (n : Int) := by omega
  have n2 : (n : Int) ≤ 128 := by omega
  have n3 : (1 : Int) ≤ (t1 : Int) := by omega
  have n4 : (t1 : Int) ≤ 1024 := by omega
  have b1 : decide ((n : Int) < 1) = false := by simp; omega
  have b2 : decide ((128 : Int) < (n : Int)) = false := by simp; omega
  have b3 : decide ((t1 : Int) < 1) = false := by simp; omega
  have b4 : decide ((1024 : Int) < (t1 : Int)) = false := by simp; omega
  have hl : key.length = n := by rw [← bvals_length]; exact hr.1
  have HL := Lib.hid hl
  have HT := Lib.hid hT
  have HTb := Lib.hid hTb
  have HR := Lib.hid hr
  have HR2 := Lib.hid hr2
  clear hl hT hTb hr hr2
  go_enter Tryd.func13, Tryd.ntmps13
  go_wp2_with fail
  refine (copied_any A n c key w w.heap.size HR.out (by omega)).mono ?_
  rintro E w1 ⟨v1, rfl, ho1, hb1⟩
  obtain ⟨A1, c1, rfl, hc1, r1⟩ := own_form2 ho1
  rw [HL.out] at r1 hc1 ⊢
  have R1 := Lib.hid r1
  clear r1 ho1
  have H0 : Hid (0 < w.heap.size) := by
    obtain ⟨g, o, _, h, _⟩ := HR2.out.at_ (k := 0) (by omega)
    show 0 < _
    omega
  go_wp2_with fail
  refine (new_any T A1 n c1 t1 (nums key) w1 (HT.out.below hb1 H0.out) HTb.out (by rw [nvals_nums]; exact R1.out) nums_le hn0 hn ht0 ht1).mono ?_
  rintro E w2 ⟨gk, rfl, hgk, hBk, hb2⟩
  replace hBk := Lib.hid hBk
  go_wp2_with (at_make; refine wpList_make_blk rfl _ _ 22 rfl 5 j0 _ Tryd.underlying22 hj hy0 hy1 rfl _ _ 8 rfl rfl (by rw [hy2]; omega) (by omega) ?_; intro w3 gd HGd hBd hb3 hs3; replace hBd := Lib.hid hBd)
  all_goals
    have hbw : Below w.heap.size w w3 := (hb1.trans (hb2.mono hb1.size)).trans (hb3.mono (Nat.le_trans hb1.size hb2.size))
    have hb24 : Hid (∀ w4, Below w3.heap.size w3.drew w4 → KeyAt w4 gk (Kof T key t1) ∧ Blk w4 gd 5 (List.replicate 8 (.int .u8 0)) ∧ gk < w4.heap.size) := by
      intro w4 h4
      have k3 := (hBk.out.below hb3 hBk.out.lt)
      have k4 := k3.below (w := w3.drew) h4 k3.lt
      exact ⟨keyAt_of_blk k4, hBd.out.below (w := w3.drew) h4 hBd.out.lt, k4.lt⟩
    have q1 := nil_enc
    have q2 := nil_dec
    have q3 := method_enc
    have q4 := method_dec
  · have he : enc = true := by first | assumption | simpa using ‹_›
    have HEn := Lib.hid he
    clear he
    go_region_with (first | (go_at_call 31; refine (copied8 A2 c2 blk _ w.heap.size (HR2.out.below hbw.drew)).mono ?_; rintro E w4 ⟨gs, c4, rfl, hc4, r4, hb4⟩) | (go_at_call 124; refine (encrypt_any gk gd gs 0 c4 5 (Kof T key t1) _ (ints blk) w4 (hb24.out w4 hb4.out).1 (hb24.out w4 hb4.out).2.1 (by simp) (by rw [ivals_ints]; exact r4.out) ints_le (hb24.out w4 hb4.out).2.2 hc4).mono ?_; rintro E w5 ⟨rfl, hB5, hg5⟩; replace hB5 := Lib.hid hB5))
    all_goals
      go_wp2_with fail
      go_ret2
      have hgd : w.heap.size ≤ gd := by
        have h1 := hb1.size
        have h2 := hb2.size
        have h3 := HGd.out
        omega
      have hb4' : Below w.heap.size w w4 := hbw.drew.trans (hb4.out.mono hbw.size)
      exact ⟨gd, rfl, hgd, by rw [HEn.out]; exact hB5.out, hb4'.trans (below_of_grown hg5 hgd hb4'.size)⟩
  · have he : enc = false := by first | assumption | simpa using ‹_›
    have HEn := Lib.hid he
    clear he
    go_region_with (first | (go_at_call 31; refine (copied8 A2 c2 blk _ w.heap.size (HR2.out.below hbw.drew)).mono ?_; rintro E w4 ⟨gs, c4, rfl, hc4, r4, hb4⟩) | (go_at_call 123; refine (decrypt_any gk gd gs 0 c4 5 (Kof T key t1) _ (ints blk) w4 (hb24.out w4 hb4.out).1 (hb24.out w4 hb4.out).2.1 (by simp) (by rw [ivals_ints]; exact r4.out) ints_le (hb24.out w4 hb4.out).2.2 hc4).mono ?_; rintro E w5 ⟨rfl, hB5, hg5⟩; replace hB5 := Lib.hid hB5))
    all_goals
      go_wp2_with fail
      go_ret2
      have hgd : w.heap.size ≤ gd := by
        have h1 := hb1.size
        have h2 := hb2.size
        have h3 := HGd.out
        omega
      have hb4' : Below w.heap.size w w4 := hbw.drew.trans (hb4.out.mono hbw.size)
      exact ⟨gd, rfl, hgd, by rw [HEn.out]; exact hB5.out, hb4'.trans (below_of_grown hg5 hgd hb4'.size)⟩
end Go.Proofs.YtlnifplomlnoiaaDoor
