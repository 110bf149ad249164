/- utf16.Decode at units that are no surrogates: the same numbers as runes. At most 2^30 units. -/
import Derived.Test.YtlnifplomlnoiaaAppend
import Derived.Test.YtlnifplomlnoiaaProg
namespace Go.Proofs.Ytlnifplomlnoiaa
open Go.RowKit

theorem info21 : (Try.prog.info? 21).map (fun i => (i.zero, i.size, i.bytes)) = some (some (.int .i32 0), 1, 4) := by kernel_rfl

/-- Numbers as values of a kind. -/
def nvals (k : IntKind) (l : List Nat) : List Value := l.map fun (r : Nat) => Value.int k (r : Int)
theorem nvals_length (k : IntKind) (l : List Nat) : (nvals k l).length = l.length := by simp [nvals]
theorem nvals_get? {k : IntKind} {l : List Nat} {i x : Nat} (h : l[i]? = some x) : (nvals k l)[i]? = some (.int k (x : Int)) := by simp [nvals, h]
theorem nvals_one {k : IntKind} {l : List Nat} : ∀ u ∈ nvals k l, u.oneCell' = true := by
  intro u hu
  simp only [nvals, List.mem_map] at hu
  obtain ⟨b, _, rfl⟩ := hu
  rfl
theorem nvals_snoc (k : IntKind) (l : List Nat) (x : Nat) : nvals k (l ++ [x]) = nvals k l ++ [.int k (x : Int)] := by simp [nvals]

/-- A unit that stands for itself. -/
def plainUnit (r : Nat) : Prop := r < 55296 ∨ (57344 ≤ r ∧ r < 65536)

set_option maxRecDepth 1000000 in
set_option maxHeartbeats 4000000 in
theorem decode_any (A : Option Addr) (n c : Nat) (us : List Nat) (v0 : Value) (w : World) (B b : Nat) (hr : Rd w B A n (nvals .u16 us)) (hBb : B ≤ b) (hown : w.ownsRow b 21 1 v0 0 []) (hb : b ≤ w.heap.size)
    (hn : n ≤ 1000000) (hu : ∀ r ∈ us, plainUnit r) :
    Calls Try.prog 52 #[.slice A n c, v0] w fun E w' => ∃ v, E = .returned v ∧ w'.ownsRow b 21 1 v n (nvals .i32 us) ∧ Below b w w' := by
  obtain ⟨i0, hi, hz0, hz1, hz2⟩ := info_parts info21
  have hl : us.length = n := by rw [← nvals_length .u16]; exact hr.1
  have HL := Lib.hid hl
  have HU := Lib.hid hu
  clear hl hu
  go_enter Try.func52, Try.ntmps52
  go_wp2_with fail
  go_loopw [1, 5] (fun v i wr => ∃ k : Nat, k ≤ n ∧ i = .int .i64 k ∧ wr.ownsRow b 21 1 v k (nvals .i32 (us.take k)) ∧ Below b w wr) (fun _ i _ => n - (intOf i).toNat)
  case atStart => exact ⟨0, Nat.zero_le _, rfl, by simpa [nvals] using hown, Below.refl _ _⟩
  case round =>
    obtain ⟨k, hk, rfl, ho, hbw⟩ := hrel
    by_cases hlt : k < n
    · obtain ⟨x, hx⟩ : ∃ x, us[k]? = some x := ⟨_, List.getElem?_eq_getElem (by rw [HL.out]; omega)⟩
      have hp := HU.out x (List.mem_of_getElem? hx)
      obtain ⟨g, o, rfl, hg, hc⟩ := (hr.more hBb |>.below hbw).at_ hlt
      have hc' := hc k _ (nvals_get? hx)
      have b1 : (k : Int) < (n : Int) := by omega
      have hxt : nvals .i32 (us.take (k + 1)) = nvals .i32 (us.take k) ++ [.int .i32 (x : Int)] := by
        rw [List.take_add_one, hx]; exact nvals_snoc _ _ _
      have HX := Lib.hid hxt
      clear hc hr hx hxt
      rcases hp with hp | ⟨hp1, hp2⟩
      · have d1 : decide ((x : Int) < 55296) = true := by simp; omega
        have x0 : (x : Int) ≤ 55295 := by omega
        clear hp
        go_wp2_with (at_builtin; refine wpList_append_own _ rfl _ _ 67 rfl b 21 i0 (.int .i32 0) 1 4 Try.underlying67 hi hz0 hz1 hz2 rfl (by decide) _ _ _ rfl (ho.alloc _) ⟨wr.heap.size, 0, none⟩ 1 1 [.int .i32 (x : Int)] rfl rfl (cell_one_new _ _ _) (by intro u hu; simp at hu; subst hu; rfl) (by unfold maxLen; omega) (by omega) (by have := hbw.size; simp; omega) ?_; intro v' w1 ho' hg1 _)
        have ho2 : w1.ownsRow b 21 1 v' (k + 1) (nvals .i32 (us.take (k + 1))) := by rw [HX.out]; exact ho'
        have hbw2 : Below b w w1 := (hbw.alloc (by have := hbw.size; omega) (Obj.cells #[.int .i32 (x : Int)] 21)).grown hg1 (by have := hbw.size; simp; omega) (fun _ hk => (ho.lt _ hk).1)
        clear ho' hg1 ho hbw
        go_wp2_with fail
        go_roundw
        case rel => exact ⟨k + 1, by omega, by go_num, ho2, hbw2⟩
        case measure => simp [intOf]; omega
      · have d1 : decide ((x : Int) < 55296) = false := by simp; omega
        have d2 : decide ((57344 : Int) ≤ (x : Int)) = true := by simp; omega
        have x0 : (x : Int) ≤ 65535 := by omega
        clear hp1 hp2
        go_wp2_with (at_builtin; refine wpList_append_own _ rfl _ _ 67 rfl b 21 i0 (.int .i32 0) 1 4 Try.underlying67 hi hz0 hz1 hz2 rfl (by decide) _ _ _ rfl (ho.alloc _) ⟨wr.heap.size, 0, none⟩ 1 1 [.int .i32 (x : Int)] rfl rfl (cell_one_new _ _ _) (by intro u hu; simp at hu; subst hu; rfl) (by unfold maxLen; omega) (by omega) (by have := hbw.size; simp; omega) ?_; intro v' w1 ho' hg1 _)
        have ho2 : w1.ownsRow b 21 1 v' (k + 1) (nvals .i32 (us.take (k + 1))) := by rw [HX.out]; exact ho'
        have hbw2 : Below b w w1 := (hbw.alloc (by have := hbw.size; omega) (Obj.cells #[.int .i32 (x : Int)] 21)).grown hg1 (by have := hbw.size; simp; omega) (fun _ hk => (ho.lt _ hk).1)
        clear ho' hg1 ho hbw
        go_wp2_with fail
        go_roundw
        case rel => exact ⟨k + 1, by omega, by go_num, ho2, hbw2⟩
        case measure => simp [intOf]; omega
    · obtain rfl : k = n := by omega
      go_wp2_with fail
      go_ret
      refine ⟨_, rfl, ?_, hbw⟩
      rw [List.take_of_length_le (by rw [HL.out]; omega)] at ho
      exact ho

set_option maxHeartbeats 1000000 in
theorem decodeTop_any (A : Option Addr) (n c : Nat) (us : List Nat) (w : World) (B : Nat) (hr : Rd w B A n (nvals .u16 us)) (hB : B ≤ w.heap.size) (hn : n ≤ 1000000) (hu : ∀ r ∈ us, plainUnit r) :
    Calls Try.prog 40 #[.slice A n c] w fun E w' => ∃ v, E = .returned v ∧ w'.ownsRow w.heap.size 21 1 v n (nvals .i32 us) ∧ Below w.heap.size w w' := by
  obtain ⟨i0, hi, hz0, hz1, hz2⟩ := info_parts info21
  have HU := Lib.hid hu
  clear hu
  go_enter Try.func40, Try.ntmps40
  go_wp2_with (refine wpList_make_own _ rfl _ _ 67 rfl w.heap.size 21 i0 (.int .i32 0) 1 Try.underlying67 hi hz0 hz1 _ _ _ 64 rfl rfl (by simp) (by rw [hz2]; omega) (by unfold maxLen; omega) (Nat.le_refl _) ?_; intro w1 hown0 hg0)
  have hbw0 : Below w.heap.size w w1 := (Below.refl _ _).grown hg0 (Nat.le_refl _) (fun _ hk => by cases hk)
  have hr1 := (hr.more hB).below hbw0
  clear hg0 hr
  go_wp2_with fail
  refine (decode_any _ _ _ us _ _ _ _ hr1 (Nat.le_refl _) hown0 hbw0.size hn HU.out).mono ?_
  rintro E w2 ⟨v, rfl, ho, hb⟩
  go_wp2_with fail
  go_ret
  exact ⟨v, rfl, ho, hbw0.trans hb⟩
end Go.Proofs.Ytlnifplomlnoiaa
