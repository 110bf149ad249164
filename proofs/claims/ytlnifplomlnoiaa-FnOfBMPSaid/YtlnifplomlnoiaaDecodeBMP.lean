/- The package's decodeBMPString: bytes of units that are no surrogates, with two noughts behind or without, give the units' text; an odd number of bytes is an error. At most 2000 bytes. -/
import Derived.Test.YtlnifplomlnoiaaSpecBMP
import Derived.Test.YtlnifplomlnoiaaEnc
import Derived.Test.YtlnifplomlnoiaaDecode
import Derived.Deep.RegionHeld3
import Derived.Laws.Cover4
namespace Go.Proofs.Ytlnifplomlnoiaa
open Go.RowKit

theorem info66 : (Try.prog.info? 66).map (fun i => (i.zero, i.size, i.bytes)) = some (some (.int .u16 0), 1, 2) := by kernel_rfl
def lenOf : Value → Nat | .slice _ n _ => n | _ => 0

theorem enc2_cons_vals (x : Nat) (l : List Nat) (h : x < 65536) : bvals (enc2 (x :: l)) = .int .u8 ((x / 256 : Nat) : Int) :: .int .u8 ((x % 256 : Nat) : Int) :: bvals (enc2 l) := by
  simp only [enc2, bvals, bval, List.map_cons, UInt8.toNat_ofNat']
  rw [Nat.mod_eq_of_lt (show x / 256 < 2 ^ 8 by omega), Nat.mod_eq_of_lt (show x % 256 < 2 ^ 8 by omega)]

/-- The first two cells, and what the rest reads as behind a cut of two. -/
theorem rd_two {w : World} {B q x : Nat} {A : Option Addr} {l : List Nat} (h : Rd w B A (q + 2) (bvals (enc2 (x :: l)))) (hx : x < 65536) :
    ∃ g o, A = some ⟨g, o, none⟩ ∧ g < B ∧ w.cell? ⟨g, o, none⟩ = some (.int .u8 ((x / 256 : Nat) : Int)) ∧ w.cell? ⟨g, o + 1, none⟩ = some (.int .u8 ((x % 256 : Nat) : Int)) ∧
      ∀ (w' : World) (c' : Nat), (∀ p : Addr, p.block < B → w'.cell? p = w.cell? p) → q + 2 ≤ c' → Rd w' B (if c' = 2 then some ⟨g, o, none⟩ else some ⟨g, o + 2, none⟩) q (bvals (enc2 l)) := by
  rw [enc2_cons_vals x l hx] at h
  obtain ⟨g, o, rfl, hg, hc⟩ := h.at_ (k := 0) (by omega)
  refine ⟨g, o, rfl, hg, hc 0 _ rfl, hc 1 _ rfl, fun w' c' hk hq => ⟨by have := h.1; simp at this; omega, fun hn => ⟨g, o + 2, by rw [if_neg (by omega)], hg, fun j u hu => ?_⟩⟩⟩
  have e : (⟨g, o + 2 + j, none⟩ : Addr) = ⟨g, o + (j + 2), none⟩ := by congr 1; omega
  rw [e, hk _ hg]
  exact hc (j + 2) u (by simpa using hu)

/-- A row of runes as a string. -/
theorem run_to_string {P : Program} {w : World} {b : Nat} {v : Value} {n : Nat} {us : List Nat} {src dst e : TypeId} (h : w.ownsRow b 21 1 v n (nvals .i32 us))
    (hs : P.underlying src = some (.slice e)) (he : P.underlying e = some (.int .i32)) (hd : P.underlying dst = some .string) :
    (convert src dst v).run P w = .ok (.string (runesBytes (us.map fun (r : Nat) => (r : Int)))) w := by
  have hl : us.length = n := by have := h.1; rw [nvals_length] at this; omega
  rcases h.2 with ⟨rfl, rfl⟩ | ⟨g, cap, cur, rfl, _⟩
  · obtain rfl : us = [] := List.eq_nil_of_length_eq_zero hl
    exact run_convert_runes_nil w src dst e 0 0 hs he hd
  · have hc := h.cells (g := g) rfl
    have := run_convert_runes (P := P) w src dst e ⟨g, 0, none⟩ n cap (us.map fun (r : Nat) => (r : Int)) (by simp; omega) hs he hd (by
      intro j hj
      simp only [List.length_map] at hj
      refine hc j _ ?_
      rw [nvals_get? (List.getElem?_eq_getElem hj)]
      simp [List.getD_eq_getElem?_getD, List.getElem?_eq_getElem hj])
    rwa [List.take_of_length_le (by simp; omega)] at this

def DecOk (us : List Nat) (w : World) (E : Ending) (w' : World) : Prop := E = .returned (.tuple #[.string (runesBytes (us.map fun (r : Nat) => (r : Int))), .nilIface]) ∧ Below w.heap.size w w'

set_option maxRecDepth 1000000 in
set_option maxHeartbeats 4000000 in
theorem decodeBMP_term (A : Option Addr) (m c : Nat) (us : List Nat) (w : World) (B : Nat) (hr0 : Rd w B A (m + 2) (bvals (enc2 us ++ [0, 0]))) (hc : m + 2 ≤ c)
    (hB : B ≤ w.heap.size) (L : Nat) (hL : us.length = L) (hm : m = 2 * L) (hLs : L ≤ 1000) (hu : ∀ r ∈ us, plainUnit r) :
    Calls Try.prog 31 #[.slice A (m + 2) c] w (DecOk us w) := by
  obtain ⟨i0, hi, hz0, hz1, hz2⟩ := info_parts info66
  have HL := Lib.hid hL
  have HM := Lib.hid hm
  have HU := Lib.hid hu
  have hmle : m ≤ 2000 := by omega
  clear hL hm hu
  obtain ⟨g0, o0, rfl, hg0, hc0⟩ := hr0.at_ (k := 0) (by omega)
  have hlen : (bvals (enc2 us)).length = m := by rw [bvals_length, enc2_length, HL.out, HM.out]
  have z0 : w.cell? ⟨g0, o0 + (m + 1), none⟩ = some (.int .u8 0) := hc0 (m + 1) _ (by rw [bvals_append, List.getElem?_append_right (by omega), hlen, show m + 1 - m = 1 by omega]; rfl)
  have z1 : w.cell? ⟨g0, o0 + m, none⟩ = some (.int .u8 0) := hc0 m _ (by rw [bvals_append, List.getElem?_append_right (by omega), hlen, show m - m = 0 by omega]; rfl)
  have hr : Rd w B (some ⟨g0, o0, none⟩) m (bvals (enc2 us)) := ⟨hlen, fun _ => ⟨g0, o0, rfl, hg0, fun j u hu => hc0 j u (by rw [bvals_append, List.getElem?_append_left (List.getElem?_eq_some_iff.1 hu).1]; exact hu)⟩⟩
  have hodd : ((m : Int) + 2) % 2 = 0 := by have := HM.out; omega
  have hge : decide ((2 : Int) ≤ (m : Int) + 2) = true := by simp; omega
  have ix1 : (m : Int) + 1 < (m : Int) + 2 := by omega
  have ix2 : (m : Int) < (m : Int) + 2 := by omega
  have cc : (m : Int) ≤ (c : Int) := by omega
  have HLEN := Lib.hid hlen
  clear hc0 hr0 hlen
  go_enter Try.func31, Try.ntmps31
  go_wp2_with (refine wpList_make_own _ rfl _ _ 65 rfl w.heap.size 66 i0 (.int .u16 0) 1 Try.underlying65 hi hz0 hz1 _ _ _ L rfl rfl (by have := HM.out; omega) (by rw [hz2]; omega) (by unfold maxLen; omega) (Nat.le_refl _) ?_; intro w1 hown0 hg0)
  have hbw0 : Below w.heap.size w w1 := (Below.refl _ _).grown hg0 (Nat.le_refl _) (fun _ hk => by cases hk)
  have hr1 := (hr.more hB).below hbw0
  clear hg0 hr z0 z1 hodd hge ix1 ix2 cc
  go_wp2_with fail
  go_loopw [0, 5] (fun s v wr => ∃ (k : Nat) (A' : Option Addr) (m' c' : Nat), k ≤ L ∧ s = .slice A' m' c' ∧ m' ≤ c' ∧ Hid (m' = 2 * (L - k)) ∧ Rd wr w.heap.size A' m' (bvals (enc2 (us.drop k))) ∧
      wr.ownsRow w.heap.size 66 1 v k (nvals .u16 (us.take k)) ∧ Below w.heap.size w wr) (fun s _ _ => lenOf s)
  case atStart => exact ⟨0, _, m, c, Nat.zero_le _, rfl, by omega, by show _ = _; have := HM.out; omega, by simpa using hr1, by simpa [nvals] using hown0, hbw0⟩
  case round =>
    obtain ⟨k, A', m', c', hk, rfl, hmc, HM', hr', ho, hbw⟩ := hrel
    clear hr1 hown0 hbw0
    by_cases hlt : k < L
    · obtain ⟨x, hx⟩ : ∃ x, us[k]? = some x := ⟨_, List.getElem?_eq_getElem (by rw [HL.out]; omega)⟩
      have hp := HU.out x (List.mem_of_getElem? hx)
      have hdrop : us.drop k = x :: us.drop (k + 1) := by
        rw [List.getElem?_eq_some_iff] at hx
        obtain ⟨h1, rfl⟩ := hx
        exact List.drop_eq_getElem_cons h1
      have hxt : nvals .u16 (us.take (k + 1)) = nvals .u16 (us.take k) ++ [.int .u16 (x : Int)] := by
        rw [List.take_add_one, hx]; exact nvals_snoc _ _ _
      have hlow : x < 65536 := by rcases hp with h | h <;> omega
      obtain ⟨q, rfl⟩ : ∃ q, m' = q + 2 := ⟨m' - 2, by have := HM'.out; omega⟩
      rw [hdrop] at hr'
      have hr2 := rd_two hr' hlow
      obtain ⟨g, o, rfl, hg, c0, c1, hcut⟩ := hr2
      obtain ⟨hh, hhd⟩ : ∃ h, x / 256 = h := ⟨_, rfl⟩
      obtain ⟨ll, hld⟩ : ∃ l, x % 256 = l := ⟨_, rfl⟩
      rw [hhd] at c0
      rw [hld] at c1
      have hxe : x = hh * 256 + ll := by omega
      have hh1 : hh ≤ 255 := by omega
      have hl1 : ll ≤ 255 := by omega
      have i0' : (0 : Int) < (q : Int) + 2 := by omega
      have i1' : (1 : Int) < (q : Int) + 2 := by omega
      have n0' : 0 < q + 2 := by omega
      have n1' : 1 < q + 2 := by omega
      have HX := Lib.hid hxt
      have HXE := Lib.hid hxe
      have HC := Lib.hid hcut
      have n2 : (2 : Int) ≤ (q : Int) + 2 := by omega
      have e8 : IntKind.u16.wrap ((hh : Int) * 256) = (hh : Int) * 256 := IntWalk.u16_in _ (by omega)
      have e9 : IntKind.u16.wrap ((hh : Int) * 256 + (ll : Int)) = (hh : Int) * 256 + (ll : Int) := IntWalk.u16_in _ (by omega)
      have e5 : IntKind.u16.wrap (hh : Int) = (hh : Int) := IntWalk.u16_in _ (by omega)
      have e6 : IntKind.u16.wrap (ll : Int) = (ll : Int) := IntWalk.u16_in _ (by omega)
      clear hx hp hdrop hxt hlow hr' hhd hld hxe hcut
      go_wp2_with fail
      go_region_held3 (fun w' => w'.cell? ⟨g, o, none⟩ = some (.int .u8 (hh : Int)) ∧ w'.cell? ⟨g, o + 1, none⟩ = some (.int .u8 (ll : Int)))
        (first
          | go_keep
          | (go_split_ands
             refine ⟨?_, ?_⟩
             · (rw [hgrow.grown.cell_far _ (by have := hbw.size; simp; omega) (fun h => by have h2 : w.heap.size ≤ g := (ho.lt _ h.symm).1; omega)]; assumption)
             · (rw [hgrow.grown.cell_far _ (by have := hbw.size; simp; omega) (fun h => by have h2 : w.heap.size ≤ g := (ho.lt _ h.symm).1; omega)]; assumption)))
        ((refine step_append_rd _ (by rfl) _ _ _ (by rfl) w.heap.size 66 i0 (.int .u16 0) 2 Try.underlying65 hi hz0 hz1 hz2 rfl _ k (nvals .u16 (us.take k)) (by rfl) ((ho.alloc _).drew) (wr.heap.size + 1) _ 1 1 [.int .u16 ((hh : Int) * 256 + (ll : Int))] (by rfl) (rd_new wr #[.int .u16 ((hh : Int) * 256 + (ll : Int))] 66 1 rfl) (by intro u hu; simp at hu; subst hu; rfl) (by omega) (by unfold maxLen; omega) (by have := hbw.size; simp; omega) ?_; intro v' w2 hgrow))
      have ho2 : w2.ownsRow w.heap.size 66 1 v' (k + 1) (nvals .u16 (us.take (k + 1))) := by
        rw [HX.out, HXE.out]
        have := hgrow.own
        simpa using this
      have hbA : Below w.heap.size w (wr.alloc (.cells #[.int .u16 ((hh : Int) * 256 + (ll : Int))] 66)).drew := (hbw.alloc hbw.size _).drew
      have hbw2 : Below w.heap.size w w2 := hgrow.below hbA ((ho.alloc _).drew) (by have := hbw.size; simp; omega)
      have hk2 : ∀ p : Addr, p.block < w.heap.size → w2.cell? p = wr.cell? p := fun p hp => (hbw2.cell hp).trans (hbw.cell hp).symm
      have hrd := HC.out w2 c' hk2 hmc
      have hm2 : q = 2 * (L - (k + 1)) := by have := HM'.out; omega
      have HM2 := Lib.hid hm2
      have hqc : (q : Int) + 2 ≤ (c' : Int) := by omega
      clear hgrow hbA hk2 ho hbw hm2
      by_cases hc2 : c' = 2
      · subst hc2
        obtain rfl : q = 0 := by omega
        rw [if_pos rfl] at hrd
        go_wp2_with fail
        go_roundw
        case rel => exact ⟨k + 1, some ⟨g, o, none⟩, 0, 0, by omega, rfl, by omega, HM2, hrd, ho2, hbw2⟩
        case measure => simp [lenOf]
      · rw [if_neg hc2] at hrd
        have hc3 : ¬ (c' : Int) = 2 := by omega
        go_wp2_with fail
        go_roundw
        case rel => exact ⟨k + 1, some ⟨g, o + 2, none⟩, q, c' - 2, by omega, rfl, by omega, HM2, hrd, ho2, hbw2⟩
        case measure => simp [lenOf]
    · obtain rfl : k = L := by omega
      obtain rfl : m' = 0 := by have := HM'.out; omega
      obtain ⟨A5, c5, rfl, r5⟩ := own_form ho
      rw [List.take_of_length_le (by rw [HL.out]; omega)] at r5
      clear ho hr'
      go_wp2_with fail
      refine (decodeTop_any _ _ _ us _ _ r5 (Nat.le_refl _) (by omega) HU.out).mono ?_
      rintro E w2 ⟨v6, rfl, ho6, hb6⟩
      have hcv := run_to_string ho6 Try.underlying67 Try.underlying21 Try.underlying9
      have HR := Lib.hid (rfl : runesBytes (us.map fun (r : Nat) => (r : Int)) = runesBytes (us.map fun (r : Nat) => (r : Int)))
      obtain ⟨S, hS⟩ : ∃ S, runesBytes (us.map fun (r : Nat) => (r : Int)) = S := ⟨_, rfl⟩
      rw [hS] at hcv
      have HS := Lib.hid hS
      clear hS ho6
      go_wp2_with fail
      go_ret2
      exact ⟨by rw [HS.out]; rfl, hbw.trans (hb6.mono hbw.size)⟩

set_option maxRecDepth 1000000 in
set_option maxHeartbeats 4000000 in
theorem decodeBMP_nil (A : Option Addr) (m c : Nat) (us : List Nat) (w : World) (B : Nat) (hr : Rd w B A m (bvals (enc2 us))) (hc : m ≤ c) (hx : us = [])
    (hB : B ≤ w.heap.size) (L : Nat) (hL : us.length = L) (hm : m = 2 * L) (hLs : L ≤ 1000) (hu : ∀ r ∈ us, plainUnit r) :
    Calls Try.prog 31 #[.slice A m c] w (DecOk us w) := by
  obtain ⟨i0, hi, hz0, hz1, hz2⟩ := info_parts info66
  have HL := Lib.hid hL
  have HM := Lib.hid hm
  have HU := Lib.hid hu
  have hmle : m ≤ 2000 := by omega
  clear hL hm hu
  have hlen : (bvals (enc2 us)).length = m := by rw [bvals_length, enc2_length, HL.out, HM.out]
  have hm0 : m = 0 := by have := HL.out; have := HM.out; subst hx; simp at *; omega
  have hodd : (m : Int) % 2 = 0 := by have := HM.out; omega
  have hge : decide ((2 : Int) ≤ (m : Int)) = false := by simp; omega
  have HLEN := Lib.hid hlen
  clear hlen hx hm0
  go_enter Try.func31, Try.ntmps31
  go_wp2_with (refine wpList_make_own _ rfl _ _ 65 rfl w.heap.size 66 i0 (.int .u16 0) 1 Try.underlying65 hi hz0 hz1 _ _ _ L rfl rfl (by have := HM.out; omega) (by rw [hz2]; omega) (by unfold maxLen; omega) (Nat.le_refl _) ?_; intro w1 hown0 hg0)
  have hbw0 : Below w.heap.size w w1 := (Below.refl _ _).grown hg0 (Nat.le_refl _) (fun _ hk => by cases hk)
  have hr1 := (hr.more hB).below hbw0
  clear hg0 hr hodd hge
  go_wp2_with fail
  go_loopw [0, 5] (fun s v wr => ∃ (k : Nat) (A' : Option Addr) (m' c' : Nat), k ≤ L ∧ s = .slice A' m' c' ∧ m' ≤ c' ∧ Hid (m' = 2 * (L - k)) ∧ Rd wr w.heap.size A' m' (bvals (enc2 (us.drop k))) ∧
      wr.ownsRow w.heap.size 66 1 v k (nvals .u16 (us.take k)) ∧ Below w.heap.size w wr) (fun s _ _ => lenOf s)
  case atStart => exact ⟨0, _, m, c, Nat.zero_le _, rfl, by omega, by show _ = _; have := HM.out; omega, by simpa using hr1, by simpa [nvals] using hown0, hbw0⟩
  case round =>
    obtain ⟨k, A', m', c', hk, rfl, hmc, HM', hr', ho, hbw⟩ := hrel
    clear hr1 hown0 hbw0
    by_cases hlt : k < L
    · obtain ⟨x, hx⟩ : ∃ x, us[k]? = some x := ⟨_, List.getElem?_eq_getElem (by rw [HL.out]; omega)⟩
      have hp := HU.out x (List.mem_of_getElem? hx)
      have hdrop : us.drop k = x :: us.drop (k + 1) := by
        rw [List.getElem?_eq_some_iff] at hx
        obtain ⟨h1, rfl⟩ := hx
        exact List.drop_eq_getElem_cons h1
      have hxt : nvals .u16 (us.take (k + 1)) = nvals .u16 (us.take k) ++ [.int .u16 (x : Int)] := by
        rw [List.take_add_one, hx]; exact nvals_snoc _ _ _
      have hlow : x < 65536 := by rcases hp with h | h <;> omega
      obtain ⟨q, rfl⟩ : ∃ q, m' = q + 2 := ⟨m' - 2, by have := HM'.out; omega⟩
      rw [hdrop] at hr'
      have hr2 := rd_two hr' hlow
      obtain ⟨g, o, rfl, hg, c0, c1, hcut⟩ := hr2
      obtain ⟨hh, hhd⟩ : ∃ h, x / 256 = h := ⟨_, rfl⟩
      obtain ⟨ll, hld⟩ : ∃ l, x % 256 = l := ⟨_, rfl⟩
      rw [hhd] at c0
      rw [hld] at c1
      have hxe : x = hh * 256 + ll := by omega
      have hh1 : hh ≤ 255 := by omega
      have hl1 : ll ≤ 255 := by omega
      have i0' : (0 : Int) < (q : Int) + 2 := by omega
      have i1' : (1 : Int) < (q : Int) + 2 := by omega
      have n0' : 0 < q + 2 := by omega
      have n1' : 1 < q + 2 := by omega
      have HX := Lib.hid hxt
      have HXE := Lib.hid hxe
      have HC := Lib.hid hcut
      have n2 : (2 : Int) ≤ (q : Int) + 2 := by omega
      have e8 : IntKind.u16.wrap ((hh : Int) * 256) = (hh : Int) * 256 := IntWalk.u16_in _ (by omega)
      have e9 : IntKind.u16.wrap ((hh : Int) * 256 + (ll : Int)) = (hh : Int) * 256 + (ll : Int) := IntWalk.u16_in _ (by omega)
      have e5 : IntKind.u16.wrap (hh : Int) = (hh : Int) := IntWalk.u16_in _ (by omega)
      have e6 : IntKind.u16.wrap (ll : Int) = (ll : Int) := IntWalk.u16_in _ (by omega)
      clear hx hp hdrop hxt hlow hr' hhd hld hxe hcut
      go_wp2_with fail
      go_region_held3 (fun w' => w'.cell? ⟨g, o, none⟩ = some (.int .u8 (hh : Int)) ∧ w'.cell? ⟨g, o + 1, none⟩ = some (.int .u8 (ll : Int)))
        (first
          | go_keep
          | (go_split_ands
             refine ⟨?_, ?_⟩
             · (rw [hgrow.grown.cell_far _ (by have := hbw.size; simp; omega) (fun h => by have h2 : w.heap.size ≤ g := (ho.lt _ h.symm).1; omega)]; assumption)
             · (rw [hgrow.grown.cell_far _ (by have := hbw.size; simp; omega) (fun h => by have h2 : w.heap.size ≤ g := (ho.lt _ h.symm).1; omega)]; assumption)))
        ((refine step_append_rd _ (by rfl) _ _ _ (by rfl) w.heap.size 66 i0 (.int .u16 0) 2 Try.underlying65 hi hz0 hz1 hz2 rfl _ k (nvals .u16 (us.take k)) (by rfl) ((ho.alloc _).drew) (wr.heap.size + 1) _ 1 1 [.int .u16 ((hh : Int) * 256 + (ll : Int))] (by rfl) (rd_new wr #[.int .u16 ((hh : Int) * 256 + (ll : Int))] 66 1 rfl) (by intro u hu; simp at hu; subst hu; rfl) (by omega) (by unfold maxLen; omega) (by have := hbw.size; simp; omega) ?_; intro v' w2 hgrow))
      have ho2 : w2.ownsRow w.heap.size 66 1 v' (k + 1) (nvals .u16 (us.take (k + 1))) := by
        rw [HX.out, HXE.out]
        have := hgrow.own
        simpa using this
      have hbA : Below w.heap.size w (wr.alloc (.cells #[.int .u16 ((hh : Int) * 256 + (ll : Int))] 66)).drew := (hbw.alloc hbw.size _).drew
      have hbw2 : Below w.heap.size w w2 := hgrow.below hbA ((ho.alloc _).drew) (by have := hbw.size; simp; omega)
      have hk2 : ∀ p : Addr, p.block < w.heap.size → w2.cell? p = wr.cell? p := fun p hp => (hbw2.cell hp).trans (hbw.cell hp).symm
      have hrd := HC.out w2 c' hk2 hmc
      have hm2 : q = 2 * (L - (k + 1)) := by have := HM'.out; omega
      have HM2 := Lib.hid hm2
      have hqc : (q : Int) + 2 ≤ (c' : Int) := by omega
      clear hgrow hbA hk2 ho hbw hm2
      by_cases hc2 : c' = 2
      · subst hc2
        obtain rfl : q = 0 := by omega
        rw [if_pos rfl] at hrd
        go_wp2_with fail
        go_roundw
        case rel => exact ⟨k + 1, some ⟨g, o, none⟩, 0, 0, by omega, rfl, by omega, HM2, hrd, ho2, hbw2⟩
        case measure => simp [lenOf]
      · rw [if_neg hc2] at hrd
        have hc3 : ¬ (c' : Int) = 2 := by omega
        go_wp2_with fail
        go_roundw
        case rel => exact ⟨k + 1, some ⟨g, o + 2, none⟩, q, c' - 2, by omega, rfl, by omega, HM2, hrd, ho2, hbw2⟩
        case measure => simp [lenOf]
    · obtain rfl : k = L := by omega
      obtain rfl : m' = 0 := by have := HM'.out; omega
      obtain ⟨A5, c5, rfl, r5⟩ := own_form ho
      rw [List.take_of_length_le (by rw [HL.out]; omega)] at r5
      clear ho hr'
      go_wp2_with fail
      refine (decodeTop_any _ _ _ us _ _ r5 (Nat.le_refl _) (by omega) HU.out).mono ?_
      rintro E w2 ⟨v6, rfl, ho6, hb6⟩
      have hcv := run_to_string ho6 Try.underlying67 Try.underlying21 Try.underlying9
      have HR := Lib.hid (rfl : runesBytes (us.map fun (r : Nat) => (r : Int)) = runesBytes (us.map fun (r : Nat) => (r : Int)))
      obtain ⟨S, hS⟩ : ∃ S, runesBytes (us.map fun (r : Nat) => (r : Int)) = S := ⟨_, rfl⟩
      rw [hS] at hcv
      have HS := Lib.hid hS
      clear hS ho6
      go_wp2_with fail
      go_ret2
      exact ⟨by rw [HS.out]; rfl, hbw.trans (hb6.mono hbw.size)⟩

set_option maxRecDepth 1000000 in
set_option maxHeartbeats 4000000 in
theorem decodeBMP_low (A : Option Addr) (m c : Nat) (us : List Nat) (w : World) (B : Nat) (hr : Rd w B A m (bvals (enc2 us))) (hc : m ≤ c) (x : Nat) (hx : us.getLast? = some x) (hxl : x % 256 ≠ 0)
    (hB : B ≤ w.heap.size) (L : Nat) (hL : us.length = L) (hm : m = 2 * L) (hLs : L ≤ 1000) (hu : ∀ r ∈ us, plainUnit r) :
    Calls Try.prog 31 #[.slice A m c] w (DecOk us w) := by
  obtain ⟨i0, hi, hz0, hz1, hz2⟩ := info_parts info66
  have HL := Lib.hid hL
  have HM := Lib.hid hm
  have HU := Lib.hid hu
  have hmle : m ≤ 2000 := by omega
  clear hL hm hu
  have hL1 : 1 ≤ L := by
    rw [← HL.out]
    cases us with
    | nil => simp at hx
    | cons _ _ => simp
  obtain ⟨ini, hini⟩ : ∃ ini, us = ini ++ [x] := by
    rw [List.getLast?_eq_some_iff] at hx
    exact hx
  have hxp : x < 65536 := by
    have := HU.out x (by rw [hini]; simp)
    rcases this with h | h <;> omega
  have hli : (bvals (enc2 ini)).length = m - 2 := by
    rw [bvals_length, enc2_length]
    have h1 := HL.out
    have h2 := HM.out
    rw [hini] at h1
    simp at h1
    omega
  have hm2 : 2 ≤ m := by have := HM.out; omega
  obtain ⟨g0, o0, rfl, hg0, hc0⟩ := hr.at_ (k := 0) (by omega)
  have y1 : w.cell? ⟨g0, o0 + (m - 1), none⟩ = some (.int .u8 ((x % 256 : Nat) : Int)) := hc0 (m - 1) _ (by rw [hini, enc2_snoc _ _ hxp, List.getElem?_append_right (by omega), hli, show m - 1 - (m - 2) = 1 by omega]; rfl)
  have y0 : w.cell? ⟨g0, o0 + (m - 2), none⟩ = some (.int .u8 ((x / 256 : Nat) : Int)) := hc0 (m - 2) _ (by rw [hini, enc2_snoc _ _ hxp, List.getElem?_append_right (by omega), hli, show m - 2 - (m - 2) = 0 by omega]; rfl)
  have hodd : (m : Int) % 2 = 0 := by have := HM.out; omega
  have hge : decide ((2 : Int) ≤ (m : Int)) = true := by simp; omega
  have ix1 : (m : Int) - 1 < (m : Int) := by omega
  have ix2 : (m : Int) - 2 < (m : Int) := by omega
  have hmi : (2 : Int) ≤ (m : Int) := by omega
  have t1 : (((x % 256 : Nat) : Int) == 0) = false := by rw [beq_eq_false_iff_ne]; omega
  obtain ⟨lo, hlo⟩ : ∃ lo, x % 256 = lo := ⟨_, rfl⟩
  rw [hlo] at t1 y1
  clear y0 hc0 hli hini hx hlo hxl hxp
  go_enter Try.func31, Try.ntmps31
  go_wp2_with (refine wpList_make_own _ rfl _ _ 65 rfl w.heap.size 66 i0 (.int .u16 0) 1 Try.underlying65 hi hz0 hz1 _ _ _ L rfl rfl (by have := HM.out; omega) (by rw [hz2]; omega) (by unfold maxLen; omega) (Nat.le_refl _) ?_; intro w1 hown0 hg0)
  have hbw0 : Below w.heap.size w w1 := (Below.refl _ _).grown hg0 (Nat.le_refl _) (fun _ hk => by cases hk)
  have hr1 := (hr.more hB).below hbw0
  clear hg0 hr y1 t1 hodd hge ix1 ix2 hmi
  go_wp2_with fail
  go_loopw [0, 5] (fun s v wr => ∃ (k : Nat) (A' : Option Addr) (m' c' : Nat), k ≤ L ∧ s = .slice A' m' c' ∧ m' ≤ c' ∧ Hid (m' = 2 * (L - k)) ∧ Rd wr w.heap.size A' m' (bvals (enc2 (us.drop k))) ∧
      wr.ownsRow w.heap.size 66 1 v k (nvals .u16 (us.take k)) ∧ Below w.heap.size w wr) (fun s _ _ => lenOf s)
  case atStart => exact ⟨0, _, m, c, Nat.zero_le _, rfl, by omega, by show _ = _; have := HM.out; omega, by simpa using hr1, by simpa [nvals] using hown0, hbw0⟩
  case round =>
    obtain ⟨k, A', m', c', hk, rfl, hmc, HM', hr', ho, hbw⟩ := hrel
    clear hr1 hown0 hbw0
    by_cases hlt : k < L
    · obtain ⟨x, hx⟩ : ∃ x, us[k]? = some x := ⟨_, List.getElem?_eq_getElem (by rw [HL.out]; omega)⟩
      have hp := HU.out x (List.mem_of_getElem? hx)
      have hdrop : us.drop k = x :: us.drop (k + 1) := by
        rw [List.getElem?_eq_some_iff] at hx
        obtain ⟨h1, rfl⟩ := hx
        exact List.drop_eq_getElem_cons h1
      have hxt : nvals .u16 (us.take (k + 1)) = nvals .u16 (us.take k) ++ [.int .u16 (x : Int)] := by
        rw [List.take_add_one, hx]; exact nvals_snoc _ _ _
      have hlow : x < 65536 := by rcases hp with h | h <;> omega
      obtain ⟨q, rfl⟩ : ∃ q, m' = q + 2 := ⟨m' - 2, by have := HM'.out; omega⟩
      rw [hdrop] at hr'
      have hr2 := rd_two hr' hlow
      obtain ⟨g, o, rfl, hg, c0, c1, hcut⟩ := hr2
      obtain ⟨hh, hhd⟩ : ∃ h, x / 256 = h := ⟨_, rfl⟩
      obtain ⟨ll, hld⟩ : ∃ l, x % 256 = l := ⟨_, rfl⟩
      rw [hhd] at c0
      rw [hld] at c1
      have hxe : x = hh * 256 + ll := by omega
      have hh1 : hh ≤ 255 := by omega
      have hl1 : ll ≤ 255 := by omega
      have i0' : (0 : Int) < (q : Int) + 2 := by omega
      have i1' : (1 : Int) < (q : Int) + 2 := by omega
      have n0' : 0 < q + 2 := by omega
      have n1' : 1 < q + 2 := by omega
      have HX := Lib.hid hxt
      have HXE := Lib.hid hxe
      have HC := Lib.hid hcut
      have n2 : (2 : Int) ≤ (q : Int) + 2 := by omega
      have e8 : IntKind.u16.wrap ((hh : Int) * 256) = (hh : Int) * 256 := IntWalk.u16_in _ (by omega)
      have e9 : IntKind.u16.wrap ((hh : Int) * 256 + (ll : Int)) = (hh : Int) * 256 + (ll : Int) := IntWalk.u16_in _ (by omega)
      have e5 : IntKind.u16.wrap (hh : Int) = (hh : Int) := IntWalk.u16_in _ (by omega)
      have e6 : IntKind.u16.wrap (ll : Int) = (ll : Int) := IntWalk.u16_in _ (by omega)
      clear hx hp hdrop hxt hlow hr' hhd hld hxe hcut
      go_wp2_with fail
      go_region_held3 (fun w' => w'.cell? ⟨g, o, none⟩ = some (.int .u8 (hh : Int)) ∧ w'.cell? ⟨g, o + 1, none⟩ = some (.int .u8 (ll : Int)))
        (first
          | go_keep
          | (go_split_ands
             refine ⟨?_, ?_⟩
             · (rw [hgrow.grown.cell_far _ (by have := hbw.size; simp; omega) (fun h => by have h2 : w.heap.size ≤ g := (ho.lt _ h.symm).1; omega)]; assumption)
             · (rw [hgrow.grown.cell_far _ (by have := hbw.size; simp; omega) (fun h => by have h2 : w.heap.size ≤ g := (ho.lt _ h.symm).1; omega)]; assumption)))
        ((refine step_append_rd _ (by rfl) _ _ _ (by rfl) w.heap.size 66 i0 (.int .u16 0) 2 Try.underlying65 hi hz0 hz1 hz2 rfl _ k (nvals .u16 (us.take k)) (by rfl) ((ho.alloc _).drew) (wr.heap.size + 1) _ 1 1 [.int .u16 ((hh : Int) * 256 + (ll : Int))] (by rfl) (rd_new wr #[.int .u16 ((hh : Int) * 256 + (ll : Int))] 66 1 rfl) (by intro u hu; simp at hu; subst hu; rfl) (by omega) (by unfold maxLen; omega) (by have := hbw.size; simp; omega) ?_; intro v' w2 hgrow))
      have ho2 : w2.ownsRow w.heap.size 66 1 v' (k + 1) (nvals .u16 (us.take (k + 1))) := by
        rw [HX.out, HXE.out]
        have := hgrow.own
        simpa using this
      have hbA : Below w.heap.size w (wr.alloc (.cells #[.int .u16 ((hh : Int) * 256 + (ll : Int))] 66)).drew := (hbw.alloc hbw.size _).drew
      have hbw2 : Below w.heap.size w w2 := hgrow.below hbA ((ho.alloc _).drew) (by have := hbw.size; simp; omega)
      have hk2 : ∀ p : Addr, p.block < w.heap.size → w2.cell? p = wr.cell? p := fun p hp => (hbw2.cell hp).trans (hbw.cell hp).symm
      have hrd := HC.out w2 c' hk2 hmc
      have hm2 : q = 2 * (L - (k + 1)) := by have := HM'.out; omega
      have HM2 := Lib.hid hm2
      have hqc : (q : Int) + 2 ≤ (c' : Int) := by omega
      clear hgrow hbA hk2 ho hbw hm2
      by_cases hc2 : c' = 2
      · subst hc2
        obtain rfl : q = 0 := by omega
        rw [if_pos rfl] at hrd
        go_wp2_with fail
        go_roundw
        case rel => exact ⟨k + 1, some ⟨g, o, none⟩, 0, 0, by omega, rfl, by omega, HM2, hrd, ho2, hbw2⟩
        case measure => simp [lenOf]
      · rw [if_neg hc2] at hrd
        have hc3 : ¬ (c' : Int) = 2 := by omega
        go_wp2_with fail
        go_roundw
        case rel => exact ⟨k + 1, some ⟨g, o + 2, none⟩, q, c' - 2, by omega, rfl, by omega, HM2, hrd, ho2, hbw2⟩
        case measure => simp [lenOf]
    · obtain rfl : k = L := by omega
      obtain rfl : m' = 0 := by have := HM'.out; omega
      obtain ⟨A5, c5, rfl, r5⟩ := own_form ho
      rw [List.take_of_length_le (by rw [HL.out]; omega)] at r5
      clear ho hr'
      go_wp2_with fail
      refine (decodeTop_any _ _ _ us _ _ r5 (Nat.le_refl _) (by omega) HU.out).mono ?_
      rintro E w2 ⟨v6, rfl, ho6, hb6⟩
      have hcv := run_to_string ho6 Try.underlying67 Try.underlying21 Try.underlying9
      have HR := Lib.hid (rfl : runesBytes (us.map fun (r : Nat) => (r : Int)) = runesBytes (us.map fun (r : Nat) => (r : Int)))
      obtain ⟨S, hS⟩ : ∃ S, runesBytes (us.map fun (r : Nat) => (r : Int)) = S := ⟨_, rfl⟩
      rw [hS] at hcv
      have HS := Lib.hid hS
      clear hS ho6
      go_wp2_with fail
      go_ret2
      exact ⟨by rw [HS.out]; rfl, hbw.trans (hb6.mono hbw.size)⟩

set_option maxRecDepth 1000000 in
set_option maxHeartbeats 4000000 in
theorem decodeBMP_high (A : Option Addr) (m c : Nat) (us : List Nat) (w : World) (B : Nat) (hr : Rd w B A m (bvals (enc2 us))) (hc : m ≤ c) (x : Nat) (hx : us.getLast? = some x) (hxl : x % 256 = 0) (hxh : x / 256 ≠ 0)
    (hB : B ≤ w.heap.size) (L : Nat) (hL : us.length = L) (hm : m = 2 * L) (hLs : L ≤ 1000) (hu : ∀ r ∈ us, plainUnit r) :
    Calls Try.prog 31 #[.slice A m c] w (DecOk us w) := by
  obtain ⟨i0, hi, hz0, hz1, hz2⟩ := info_parts info66
  have HL := Lib.hid hL
  have HM := Lib.hid hm
  have HU := Lib.hid hu
  have hmle : m ≤ 2000 := by omega
  clear hL hm hu
  have hL1 : 1 ≤ L := by
    rw [← HL.out]
    cases us with
    | nil => simp at hx
    | cons _ _ => simp
  obtain ⟨ini, hini⟩ : ∃ ini, us = ini ++ [x] := by
    rw [List.getLast?_eq_some_iff] at hx
    exact hx
  have hxp : x < 65536 := by
    have := HU.out x (by rw [hini]; simp)
    rcases this with h | h <;> omega
  have hli : (bvals (enc2 ini)).length = m - 2 := by
    rw [bvals_length, enc2_length]
    have h1 := HL.out
    have h2 := HM.out
    rw [hini] at h1
    simp at h1
    omega
  have hm2 : 2 ≤ m := by have := HM.out; omega
  obtain ⟨g0, o0, rfl, hg0, hc0⟩ := hr.at_ (k := 0) (by omega)
  have y1 : w.cell? ⟨g0, o0 + (m - 1), none⟩ = some (.int .u8 ((x % 256 : Nat) : Int)) := hc0 (m - 1) _ (by rw [hini, enc2_snoc _ _ hxp, List.getElem?_append_right (by omega), hli, show m - 1 - (m - 2) = 1 by omega]; rfl)
  have y0 : w.cell? ⟨g0, o0 + (m - 2), none⟩ = some (.int .u8 ((x / 256 : Nat) : Int)) := hc0 (m - 2) _ (by rw [hini, enc2_snoc _ _ hxp, List.getElem?_append_right (by omega), hli, show m - 2 - (m - 2) = 0 by omega]; rfl)
  have hodd : (m : Int) % 2 = 0 := by have := HM.out; omega
  have hge : decide ((2 : Int) ≤ (m : Int)) = true := by simp; omega
  have ix1 : (m : Int) - 1 < (m : Int) := by omega
  have ix2 : (m : Int) - 2 < (m : Int) := by omega
  have hmi : (2 : Int) ≤ (m : Int) := by omega
  have t0 : (((x / 256 : Nat) : Int) == 0) = false := by rw [beq_eq_false_iff_ne]; omega
  rw [hxl] at y1
  have y1' : w.cell? ⟨g0, o0 + (m - 1), none⟩ = some (.int .u8 0) := y1
  obtain ⟨hi8, hhi⟩ : ∃ hi8, x / 256 = hi8 := ⟨_, rfl⟩
  rw [hhi] at t0 y0
  clear y1 hc0 hli hini hx hhi hxl hxh hxp
  go_enter Try.func31, Try.ntmps31
  go_wp2_with (refine wpList_make_own _ rfl _ _ 65 rfl w.heap.size 66 i0 (.int .u16 0) 1 Try.underlying65 hi hz0 hz1 _ _ _ L rfl rfl (by have := HM.out; omega) (by rw [hz2]; omega) (by unfold maxLen; omega) (Nat.le_refl _) ?_; intro w1 hown0 hg0)
  have hbw0 : Below w.heap.size w w1 := (Below.refl _ _).grown hg0 (Nat.le_refl _) (fun _ hk => by cases hk)
  have hr1 := (hr.more hB).below hbw0
  clear hg0 hr y0 y1' t0 hodd hge ix1 ix2 hmi
  go_wp2_with fail
  go_loopw [0, 5] (fun s v wr => ∃ (k : Nat) (A' : Option Addr) (m' c' : Nat), k ≤ L ∧ s = .slice A' m' c' ∧ m' ≤ c' ∧ Hid (m' = 2 * (L - k)) ∧ Rd wr w.heap.size A' m' (bvals (enc2 (us.drop k))) ∧
      wr.ownsRow w.heap.size 66 1 v k (nvals .u16 (us.take k)) ∧ Below w.heap.size w wr) (fun s _ _ => lenOf s)
  case atStart => exact ⟨0, _, m, c, Nat.zero_le _, rfl, by omega, by show _ = _; have := HM.out; omega, by simpa using hr1, by simpa [nvals] using hown0, hbw0⟩
  case round =>
    obtain ⟨k, A', m', c', hk, rfl, hmc, HM', hr', ho, hbw⟩ := hrel
    clear hr1 hown0 hbw0
    by_cases hlt : k < L
    · obtain ⟨x, hx⟩ : ∃ x, us[k]? = some x := ⟨_, List.getElem?_eq_getElem (by rw [HL.out]; omega)⟩
      have hp := HU.out x (List.mem_of_getElem? hx)
      have hdrop : us.drop k = x :: us.drop (k + 1) := by
        rw [List.getElem?_eq_some_iff] at hx
        obtain ⟨h1, rfl⟩ := hx
        exact List.drop_eq_getElem_cons h1
      have hxt : nvals .u16 (us.take (k + 1)) = nvals .u16 (us.take k) ++ [.int .u16 (x : Int)] := by
        rw [List.take_add_one, hx]; exact nvals_snoc _ _ _
      have hlow : x < 65536 := by rcases hp with h | h <;> omega
      obtain ⟨q, rfl⟩ : ∃ q, m' = q + 2 := ⟨m' - 2, by have := HM'.out; omega⟩
      rw [hdrop] at hr'
      have hr2 := rd_two hr' hlow
      obtain ⟨g, o, rfl, hg, c0, c1, hcut⟩ := hr2
      obtain ⟨hh, hhd⟩ : ∃ h, x / 256 = h := ⟨_, rfl⟩
      obtain ⟨ll, hld⟩ : ∃ l, x % 256 = l := ⟨_, rfl⟩
      rw [hhd] at c0
      rw [hld] at c1
      have hxe : x = hh * 256 + ll := by omega
      have hh1 : hh ≤ 255 := by omega
      have hl1 : ll ≤ 255 := by omega
      have i0' : (0 : Int) < (q : Int) + 2 := by omega
      have i1' : (1 : Int) < (q : Int) + 2 := by omega
      have n0' : 0 < q + 2 := by omega
      have n1' : 1 < q + 2 := by omega
      have HX := Lib.hid hxt
      have HXE := Lib.hid hxe
      have HC := Lib.hid hcut
      have n2 : (2 : Int) ≤ (q : Int) + 2 := by omega
      have e8 : IntKind.u16.wrap ((hh : Int) * 256) = (hh : Int) * 256 := IntWalk.u16_in _ (by omega)
      have e9 : IntKind.u16.wrap ((hh : Int) * 256 + (ll : Int)) = (hh : Int) * 256 + (ll : Int) := IntWalk.u16_in _ (by omega)
      have e5 : IntKind.u16.wrap (hh : Int) = (hh : Int) := IntWalk.u16_in _ (by omega)
      have e6 : IntKind.u16.wrap (ll : Int) = (ll : Int) := IntWalk.u16_in _ (by omega)
      clear hx hp hdrop hxt hlow hr' hhd hld hxe hcut
      go_wp2_with fail
      go_region_held3 (fun w' => w'.cell? ⟨g, o, none⟩ = some (.int .u8 (hh : Int)) ∧ w'.cell? ⟨g, o + 1, none⟩ = some (.int .u8 (ll : Int)))
        (first
          | go_keep
          | (go_split_ands
             refine ⟨?_, ?_⟩
             · (rw [hgrow.grown.cell_far _ (by have := hbw.size; simp; omega) (fun h => by have h2 : w.heap.size ≤ g := (ho.lt _ h.symm).1; omega)]; assumption)
             · (rw [hgrow.grown.cell_far _ (by have := hbw.size; simp; omega) (fun h => by have h2 : w.heap.size ≤ g := (ho.lt _ h.symm).1; omega)]; assumption)))
        ((refine step_append_rd _ (by rfl) _ _ _ (by rfl) w.heap.size 66 i0 (.int .u16 0) 2 Try.underlying65 hi hz0 hz1 hz2 rfl _ k (nvals .u16 (us.take k)) (by rfl) ((ho.alloc _).drew) (wr.heap.size + 1) _ 1 1 [.int .u16 ((hh : Int) * 256 + (ll : Int))] (by rfl) (rd_new wr #[.int .u16 ((hh : Int) * 256 + (ll : Int))] 66 1 rfl) (by intro u hu; simp at hu; subst hu; rfl) (by omega) (by unfold maxLen; omega) (by have := hbw.size; simp; omega) ?_; intro v' w2 hgrow))
      have ho2 : w2.ownsRow w.heap.size 66 1 v' (k + 1) (nvals .u16 (us.take (k + 1))) := by
        rw [HX.out, HXE.out]
        have := hgrow.own
        simpa using this
      have hbA : Below w.heap.size w (wr.alloc (.cells #[.int .u16 ((hh : Int) * 256 + (ll : Int))] 66)).drew := (hbw.alloc hbw.size _).drew
      have hbw2 : Below w.heap.size w w2 := hgrow.below hbA ((ho.alloc _).drew) (by have := hbw.size; simp; omega)
      have hk2 : ∀ p : Addr, p.block < w.heap.size → w2.cell? p = wr.cell? p := fun p hp => (hbw2.cell hp).trans (hbw.cell hp).symm
      have hrd := HC.out w2 c' hk2 hmc
      have hm2 : q = 2 * (L - (k + 1)) := by have := HM'.out; omega
      have HM2 := Lib.hid hm2
      have hqc : (q : Int) + 2 ≤ (c' : Int) := by omega
      clear hgrow hbA hk2 ho hbw hm2
      by_cases hc2 : c' = 2
      · subst hc2
        obtain rfl : q = 0 := by omega
        rw [if_pos rfl] at hrd
        go_wp2_with fail
        go_roundw
        case rel => exact ⟨k + 1, some ⟨g, o, none⟩, 0, 0, by omega, rfl, by omega, HM2, hrd, ho2, hbw2⟩
        case measure => simp [lenOf]
      · rw [if_neg hc2] at hrd
        have hc3 : ¬ (c' : Int) = 2 := by omega
        go_wp2_with fail
        go_roundw
        case rel => exact ⟨k + 1, some ⟨g, o + 2, none⟩, q, c' - 2, by omega, rfl, by omega, HM2, hrd, ho2, hbw2⟩
        case measure => simp [lenOf]
    · obtain rfl : k = L := by omega
      obtain rfl : m' = 0 := by have := HM'.out; omega
      obtain ⟨A5, c5, rfl, r5⟩ := own_form ho
      rw [List.take_of_length_le (by rw [HL.out]; omega)] at r5
      clear ho hr'
      go_wp2_with fail
      refine (decodeTop_any _ _ _ us _ _ r5 (Nat.le_refl _) (by omega) HU.out).mono ?_
      rintro E w2 ⟨v6, rfl, ho6, hb6⟩
      have hcv := run_to_string ho6 Try.underlying67 Try.underlying21 Try.underlying9
      have HR := Lib.hid (rfl : runesBytes (us.map fun (r : Nat) => (r : Int)) = runesBytes (us.map fun (r : Nat) => (r : Int)))
      obtain ⟨S, hS⟩ : ∃ S, runesBytes (us.map fun (r : Nat) => (r : Int)) = S := ⟨_, rfl⟩
      rw [hS] at hcv
      have HS := Lib.hid hS
      clear hS ho6
      go_wp2_with fail
      go_ret2
      exact ⟨by rw [HS.out]; rfl, hbw.trans (hb6.mono hbw.size)⟩

theorem decodeBMP_plain (A : Option Addr) (m c : Nat) (us : List Nat) (w : World) (B : Nat) (hr : Rd w B A m (bvals (enc2 us))) (hc : m ≤ c) (hB : B ≤ w.heap.size) (hL : us.length ≤ 1000) (hu : ∀ r ∈ us, plainUnit r ∧ r ≠ 0) :
    Calls Try.prog 31 #[.slice A m c] w (DecOk us w) := by
  have hm : m = 2 * us.length := by have := hr.1; rw [bvals_length, enc2_length] at this; omega
  have hp : ∀ r ∈ us, plainUnit r := fun r h => (hu r h).1
  cases h : us.getLast? with
  | none =>
    have h0 : us = [] := List.getLast?_eq_none_iff.1 h
    exact decodeBMP_nil A m c us w B hr hc h0 hB us.length rfl hm hL hp
  | some x =>
    have hx0 : x ≠ 0 := (hu x (List.mem_of_getLast? h)).2
    by_cases h1 : x % 256 = 0
    · exact decodeBMP_high A m c us w B hr hc x h h1 (by omega) hB us.length rfl hm hL hp
    · exact decodeBMP_low A m c us w B hr hc x h h1 hB us.length rfl hm hL hp

set_option maxHeartbeats 1000000 in
theorem decodeBMP_odd (A : Option Addr) (m c : Nat) (w : World) (hm : m % 2 = 1) (hle : m ≤ 2001) :
    Calls Try.prog 31 #[.slice A m c] w fun E w' => (∃ a, E = .returned (.tuple #[.string ⟨#[]⟩, .iface 87 (.pointer (some a))])) ∧ Below w.heap.size w w' := by
  have h1 : (((m : Int) % 2) != 0) = true := by rw [bne_iff_ne]; omega
  clear hm
  go_enter Try.func31, Try.ntmps31
  go_wp2_with (go_at_call 39; refine (new_any _ _).mono ?_; rintro E w2 ⟨rfl, hb2⟩)
  go_ret2
  exact ⟨⟨_, rfl⟩, hb2⟩

end Go.Proofs.Ytlnifplomlnoiaa
