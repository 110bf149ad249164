/- The tied card of the law FnDecryptBlock: at every input the law answers true, and leaves its arguments as they were. -/
import Derived.Test.YtlnifplomlnoiaaDoorCards
import Derived.Test.YtlnifplomlnoiaaDoorTie
import Derived.Test.YtlnifplomlnoiaaDoorPiTab
import Derived.Test.YtlnifplomlnoiaaDoorOpens
import Derived.Test.YtlnifplomlnoiaaDoorLawDec
import Derived.WalkKit
import Derived.Carry
import Derived.OpenVars
namespace Go.Proofs.YtlnifplomlnoiaaDoor.rowDec
open Go.ChangeShapes Go.WideShapes Go.ChangeAt Go.RowKit

theorem own : ownKnob Tryd.prog.godebug = none := by kernel_rfl
theorem laidOut : laidOutB Tryd.prog = true := by kernel_rfl
theorem rowed : varsRowed Tryd.prog Rows.fnDecryptBlockSpec.vars = true := by kernel_rfl

def args0 : Array Value := #[.slice none 0 0, .int .i64 0, .agg #[.int .u8 0, .int .u8 0, .int .u8 0, .int .u8 0, .int .u8 0, .int .u8 0, .int .u8 0, .int .u8 0]]
theorem laid_met (os : Os) : laidMet Tryd.prog Rows.fnDecryptBlockRow.laid ((piWorld os).forCall (fun _ _ => 0) ⟨#[], args0, []⟩).memory :=
  laidMet_of_run' 8 (by kernel_rfl) (by kernel_rfl)
theorem reads (os : Os) {H : Type} (enc : TypeId × Value → H) : ∃ x, DataW.whole enc Tryd.prog ((piWorld os).forCall (fun _ _ => 0) ⟨#[], args0, []⟩).memory Tryd.f4.params.toList Rows.fnDecryptBlockSpec.vars false args0.toList 8 = some x :=
  Option.isSome_iff_exists.1 (by kernel_rfl)

set_option maxRecDepth 100000 in
theorem contract (H : Type) (enc : TypeId × Value → H) (W : World) (base : Nat) (args : Array Value) (ds gs : List (DataW H)) (before : List MemPlace)
    (hval : ∀ (j : Nat) t v, Tryd.f4.params[j]? = some t → args[j]? = some v → Value.okWide Tryd.prog W .any base t v)
    (hW : DataW.Whole enc Tryd.prog Tryd.f4.params.toList Rows.fnDecryptBlockSpec.vars false W args.toList ds gs before) (hL : laidMetH Tryd.prog Rows.fnDecryptBlockRow.laid W) :
    Calls Tryd.prog 4 args W fun e W' => ∃ v, e = .returned v ∧ Rows.fnDecryptBlockSpec.post enc Tryd.prog Tryd.f4 false true false false W args v W' := by
  have hW' := hW
  obtain ⟨p, q, hA0, hV, rfl, hfz, hnd⟩ := hW
  have hA : DataW.TrodAll enc Tryd.prog W 0 (fun _ => true) true Tryd.f4.params.toList args.toList ds p := hA0
  rw [Tryd.params4] at hA hval
  obtain ⟨v0, v1, v2, d0, d1, d2, p0, p1, p2, rfl, rfl, rfl, h0, h1, h2⟩ := trodAll_three hA
  obtain ⟨g1, rfl⟩ : ∃ g1, gs = [g1] := by
    match gs, hV with
    | [g1], _ => exact ⟨g1, rfl⟩
    | [], h => exact h.elim
    | _ :: _ :: _, h => obtain ⟨_, _, _, _, _, _, _, _, _, _, h', _⟩ := h; exact h'.elim
  have h0k := h0
  have h1k := h1
  have h2k := h2
  obtain ⟨A, n, c, key, rfl, hnc, hcm, hr⟩ := open_rd (hval 0 22 v0 rfl rfl) h0
  obtain ⟨t, rfl, rfl, rfl, w1⟩ := open_int Tryd.underlying3 (hval 1 3 v1 rfl rfl) h1
  obtain ⟨blk, rfl, hb⟩ := open_arr8 (hval 2 23 v2 rfl rfl) h2
  have hT : TabAt W piT := tab_of hL
  have hlt : ∀ x ∈ (p0 ++ [] ++ p2) ++ q, x.block < W.heap.size := fun x hx => by simpa using hW'.lt x hx
  have hpos : 0 < W.heap.size := World.block_lt_of_cell? W ⟨0, 0, none⟩ (hT 0 (by omega))
  refine (lawDec_any A n c t key blk W hT hr hb hpos).mono fun e W' ⟨he, bel⟩ => ?_
  subst he
  have r0 := Below.trod laidOut (by kernel_rfl) (of_decide_eq_true (by kernel_rfl)) h0k bel (fun x hx => hlt x (by simp [hx]))
  have r2 := Below.trod laidOut (by kernel_rfl) (of_decide_eq_true (by kernel_rfl)) h2k bel (fun x hx => hlt x (by simp [hx]))
  have rv := Below.trodVars laidOut bel rowed hV
  exact ⟨_, rfl, _, _, _, [], _, _, hW', trodAll_mk1 (shut_bool Tryd.underlying4 _), trodAll_mk3 r0 (shut_int Tryd.underlying3 w1) r2, rv, bel.frame _, fun h => by cases h⟩

set_option maxRecDepth 100000 in
theorem lifted (os : Os) (started : os.Started) (H : Type) (enc : TypeId × Value → H) (F : Stop.Interp) :
    ReturnsInHanded {} Tryd.checked os 4 .any ((OpenSpec.ofChange Rows.fnDecryptBlockSpec).preRow enc Tryd.prog Tryd.f4 Rows.fnDecryptBlockRow.domain false Rows.fnDecryptBlockRow.laid) (((OpenSpec.ofChange Rows.fnDecryptBlockSpec).at F).post enc Tryd.prog Tryd.f4 false true false false) := by
  obtain ⟨x, hx⟩ := reads os enc
  refine returnsInHanded_of_row (C := Tryd.checked) (s := OpenSpec.ofChange Rows.fnDecryptBlockSpec) own started (by kernel_rfl) Tryd.func4
    (witness_row_at (enc := enc) (C := Tryd.checked) false (piWorld os) args0 rfl (by kernel_rfl) (by kernel_rfl) (by kernel_rfl)
      (OpenSpec.preRow_of_cond 8 hx rfl (fun k hk => by cases hk) (by kernel_rfl) (laid_met os))) ?_
  intro W base args ds gs before hval hW _ _ _ hL _ _
  exact contract H enc W base args ds gs before hval hW hL

theorem said : Rows.FnDecryptBlockSaid :=
  OpenClaim.holds_of_cond 4 Tryd.f4 rfl rfl rfl rfl rfl rfl rfl ⟨rfl, rfl, rfl, rfl, rfl⟩ rfl rfl rfl rfl rfl (by kernel_rfl) Tryd.func4 (by kernel_rfl)
    (of_decide_eq_true (by kernel_rfl)) (by unfold Func.isWrapper; first | (rw [if_pos (by decide +kernel)]; kernel_rfl) | (rw [if_neg (by decide +kernel)]; exact ⟨rfl, rfl⟩))
    (fun os started H enc _ F => by rw [OpenClaim.pre_eq_preRow]; exact lifted os started H enc F)

theorem plain (f : FuncId) (fn : Func) (hf : Tryd.pinned.checked.prog.funcNamed "loop.example/pub-g03153/laws.FnDecryptBlock" = some f) (hfn : Tryd.pinned.checked.prog.funcs[f]? = some fn) :
    false = Tryd.pinned.checked.prog.looks [] ∧ ∀ (j : Nat) t, fn.params[j]? = some t → Tryd.pinned.checked.prog.wantsStandIn t = false := by
  obtain rfl : f = 4 := Option.some.inj ((show Tryd.prog.funcNamed "loop.example/pub-g03153/laws.FnDecryptBlock" = some 4 by kernel_rfl).symm.trans hf) |>.symm
  obtain rfl : fn = Tryd.f4 := (Option.some.inj (Tryd.func4.symm.trans hfn)).symm
  refine ⟨by kernel_rfl, fun j t ht => ?_⟩
  rw [Tryd.params4] at ht
  have hm := Array.mem_of_getElem? ht
  simp only [List.mem_toArray, List.mem_cons, List.not_mem_nil, or_false] at hm
  rcases hm with rfl | rfl | rfl
  · exact (show Tryd.prog.wantsStandIn 22 = false by kernel_rfl)
  · exact (show Tryd.prog.wantsStandIn 3 = false by kernel_rfl)
  · exact (show Tryd.prog.wantsStandIn 23 = false by kernel_rfl)

theorem card : Rows.FnDecryptBlockCardSaid :=
  Claim7.holds_tied_plain_at .later [] _ _ _ _ said (fun _ h => by cases h) (by kernel_rfl) (fun _ h => by cases h) fnDecryptBlock_row_tie rfl ⟨rfl, rfl⟩ (by kernel_rfl) rfl plain (by kernel_rfl)
end Go.Proofs.YtlnifplomlnoiaaDoor.rowDec
namespace Go.Proofs.YtlnifplomlnoiaaDoor
theorem fnDecryptBlock_holds : Rows.FnDecryptBlockCardSaid := rowDec.card
#print axioms fnDecryptBlock_holds
end Go.Proofs.YtlnifplomlnoiaaDoor
