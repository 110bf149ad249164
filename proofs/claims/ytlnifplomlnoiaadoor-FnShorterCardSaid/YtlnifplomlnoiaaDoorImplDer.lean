/- impl.Derive at two rounds, by SHA-1 or SHA-256: the derived bytes in new memory, and true. Texts of at most 200 bytes, 1 to 200 bytes asked, for 1 to 3. -/
import Derived.Test.YtlnifplomlnoiaaDoorPb1
import Derived.Test.YtlnifplomlnoiaaDoorPb2
import Derived.Test.YtlnifplomlnoiaaDoorDerFn
import Derived.Test.YtlnifplomlnoiaaDoorLawShort
import Derived.Test.YtlnifplomlnoiaaDoorFew
namespace Go.Proofs.YtlnifplomlnoiaaDoor
open Go.RowKit

theorem isHash_ok (h : Int) (w : World) (h12 : h = 1 ∨ h = 2) : Calls Tryd.prog 39 #[.int .i64 h] w fun E w' => E = .returned (.bool true) ∧ w = w' := by
  rcases h12 with rfl | rfl
  · go_enter Tryd.func39, Tryd.ntmps39
    go_wp2_with fail
    go_ret
    exact ⟨rfl, rfl⟩
  · go_enter Tryd.func39, Tryd.ntmps39
    go_wp2_with fail
    go_ret
    exact ⟨rfl, rfl⟩
theorem isRounds_two (w : World) : Calls Tryd.prog 40 #[.int .i64 2] w fun E w' => E = .returned (.bool true) ∧ w = w' := by
  go_enter Tryd.func40, Tryd.ntmps40
  go_wp2_with fail
  go_ret
  exact ⟨rfl, rfl⟩

/-- What the derivation leaves. -/
def Derived_ (out : List Int) (size : Nat) (w : World) (E : Ending) (w' : World) : Prop :=
  ∃ g cap, E = .returned (.slice (some ⟨g, 0, none⟩) size cap) ∧ size ≤ cap ∧ w.heap.size ≤ g ∧ Rd w' w'.heap.size (some ⟨g, 0, none⟩) size (ivals out) ∧ Below w.heap.size w w'

set_option maxHeartbeats 1000000 in
theorem zzDerive_any (h : Int) (h12 : h = 1 ∨ h = 2) (As Ap : Option Addr) (sl sc pl pc size : Nat) (ss ps : List Int) (id : Int) (K : Nat → Int) (r : Nat) (hr64 : r = 64) (w : World) (hs : Rd w w.heap.size As sl (ivals ss)) (hp : Rd w w.heap.size Ap pl (ivals ps)) (hsl : sl ≤ 200) (hpl : pl ≤ 200) (hsz0 : 1 ≤ size) (hsz : size ≤ 200) (bs : ByteL ss) (bp : ByteL ps) (hK : KAt w K) (h7 : 7 < w.heap.size) :
    Calls Tryd.prog 42 #[.int .i64 h, .slice As sl sc, .slice Ap pl pc, .int .i64 2, .int .u8 id, .int .i64 (size : Int)] w (Derived_ (dOut h K r ss ps id size) size w) := by
  rcases h12 with rfl | rfl
  · have C := Lib.hid (pb1_any As Ap sl sc pl pc size ((size + 19) / 20) ss ps id w hs hp hsl hpl hsz0 (by omega) rfl bs bp)
    clear hs hp hK h7 bs bp
    go_enter Tryd.func42, Tryd.ntmps42
    go_wp2_with fail
    refine C.out.mono ?_
    rintro E w1 ⟨g, cap, rfl, hc, hg, hr, hb⟩
    go_wp2_with fail
    go_ret
    exact ⟨g, cap, rfl, hc, hg, by rw [dOut, if_pos rfl]; exact hr, hb⟩
  · have C := Lib.hid (pb2_any As Ap sl sc pl pc size ((size + 31) / 32) ss ps id w hs hp hsl hpl hsz0 (by omega) rfl bs bp K r hr64 hK h7)
    clear hs hp hK h7 bs bp hr64
    go_enter Tryd.func42, Tryd.ntmps42
    go_wp2_with fail
    refine C.out.mono ?_
    rintro E w1 ⟨g, cap, rfl, hc, hg, hr, hb⟩
    go_wp2_with fail
    go_ret
    exact ⟨g, cap, rfl, hc, hg, by rw [dOut, if_neg (by decide)]; exact hr, hb⟩

theorem ints_byteL (l : List UInt8) : ByteL (ints l) := ByteL.of fun z hz => ints_le z hz

/-- What impl.Derive leaves. -/
def ImplDerived (out : List Int) (size : Nat) (w : World) (E : Ending) (w' : World) : Prop :=
  ∃ g cap, E = .returned (.tuple #[.slice (some ⟨g, 0, none⟩) size cap, .bool true]) ∧ size ≤ cap ∧ Rd w' w'.heap.size (some ⟨g, 0, none⟩) size (ivals out) ∧ Below w.heap.size w w'

set_option maxRecDepth 1000000 in
set_option maxHeartbeats 4000000 in
theorem derive_any (h : Int) (h12 : h = 1 ∨ h = 2) (As Ap : Option Addr) (sl sc pl pc size : Nat) (ss ps : List UInt8) (id : Int) (K : Nat → Int) (r : Nat) (hr64 : r = 64) (w : World) (hs : Rd w w.heap.size As sl (bvals ss)) (hp : Rd w w.heap.size Ap pl (bvals ps)) (hsl : sl ≤ 200) (hpl : pl ≤ 200) (hsz0 : 1 ≤ size) (hsz : size ≤ 200) (hi1 : 1 ≤ id) (hi3 : id ≤ 3) (hK : KAt w K) (h7 : 7 < w.heap.size) :
    Calls Tryd.prog 19 #[.int .i64 h, .slice As sl sc, .slice Ap pl pc, .int .i64 2, .int .i64 id, .int .i64 (size : Int)] w (ImplDerived (dOut h K r (ints ss) (ints ps) id size) size w) := by
  have HS := Lib.hid hs
  have HP := Lib.hid hp
  have H12 := Lib.hid h12
  have HK := Lib.hid hK
  have H7 := Lib.hid h7
  have HR64 := Lib.hid hr64
  have HSL : Hid (ss.length = sl) := by show _ = _; rw [← bvals_length]; exact hs.1
  have HPL : Hid (ps.length = pl) := by show _ = _; rw [← bvals_length]; exact hp.1
  clear hs hp h12 hK h7 hr64
  have b1 : decide (id < 1) = false := by simp; omega
  have b2 : decide (3 < id) = false := by simp; omega
  have b3 : decide ((size : Int) < 0) = false := by simp
  have b4 : decide ((512 : Int) < (size : Int)) = false := by simp; omega
  have wi : IntKind.u8.wrap id = id := IntWalk.u8_in _ (by omega)
  go_enter Tryd.func19, Tryd.ntmps19
  go_wp2_with fail
  refine (isHash_ok h w H12.out).mono ?_
  rintro E w1 ⟨rfl, rfl⟩
  go_wp2_with fail
  refine (isRounds_two w).mono ?_
  rintro E w1 ⟨rfl, rfl⟩
  go_wp2_with fail
  refine (areTexts_ok _ _ _ [(As, sl, sc), (Ap, pl, pc)] _ rfl (by simp) (handed_two _ _ _ _ _ _ _ _) (by intro x hx; simp at hx; rcases hx with rfl | rfl <;> simp <;> omega)).mono ?_
  rintro E w1 ⟨rfl, rfl⟩
  obtain ⟨w1, hw1⟩ : ∃ w1, w1 = w.alloc (.cells #[.slice As sl sc, .slice Ap pl pc] 22) := ⟨_, rfl⟩
  rw [← hw1]
  have B1 : Hid (Below w.heap.size w w1) := by rw [hw1]; exact (Below.refl _ _).alloc (Nat.le_refl _) _
  clear hw1
  go_wp2_with fail
  refine (copied_any As sl sc ss w1 w1.heap.size ((HS.out.below B1.out).more B1.out.size) (by omega)).mono ?_
  rintro E w2 ⟨v2, rfl, ho2, hb2⟩
  obtain ⟨A2, c2, rfl, hc2, r2⟩ := own_form2 ho2
  rw [HSL.out] at r2 hc2
  rw [HSL.out]
  have R2 : Hid (Rd w2 w2.heap.size A2 sl (ivals (ints ss))) := by
    show Rd _ _ _ _ _
    rw [ivals_ints]
    exact r2
  have B2 : Hid (Below w.heap.size w w2) := B1.out.trans (hb2.mono B1.out.size)
  clear r2 ho2 hb2
  go_wp2_with fail
  refine (copied_any Ap pl pc ps w2 w2.heap.size ((HP.out.below B2.out).more B2.out.size) (by omega)).mono ?_
  rintro E w3 ⟨v3, rfl, ho3, hb3⟩
  obtain ⟨A3, c3, rfl, hc3, r3⟩ := own_form2 ho3
  rw [HPL.out] at r3 hc3
  rw [HPL.out]
  have R3 : Hid (Rd w3 w3.heap.size A3 pl (ivals (ints ps))) := by
    show Rd _ _ _ _ _
    rw [ivals_ints]
    exact r3
  have B3 : Hid (Below w.heap.size w w3) := B2.out.trans (hb3.mono B2.out.size)
  have R2' : Hid (Rd w3 w3.heap.size A2 sl (ivals (ints ss))) := (R2.out.below hb3).more hb3.size
  clear r3 ho3 hb3 R2
  go_wp2_with fail
  refine (zzDerive_any h H12.out A2 A3 sl c2 pl c3 size (ints ss) (ints ps) id K r HR64.out w3 R2'.out R3.out hsl hpl hsz0 hsz (ints_byteL ss) (ints_byteL ps) (fun i hi => (B3.out.cell (p := ⟨7, i, none⟩) H7.out).trans (HK.out i hi)) (Nat.lt_of_lt_of_le H7.out B3.out.size)).mono ?_
  rintro E w4 ⟨g, cap, rfl, hc, hg, hr, hb⟩
  have HR := Lib.hid hr
  clear hr
  go_wp2_with fail
  go_ret2
  exact ⟨g, cap, rfl, hc, HR.out, B3.out.trans (hb.mono B3.out.size)⟩
end Go.Proofs.YtlnifplomlnoiaaDoor
