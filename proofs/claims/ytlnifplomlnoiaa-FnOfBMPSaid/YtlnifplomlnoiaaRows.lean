/-
  No cell of these rows narrows 'for every input' (looked for: loops, veiled, ifaces, maps, wideKeys, modest, calm, conditions, laid).
  DERIVED. THE GIVEN ROWS OF THIS SEAT. 3 by the template 'for every input the law returns true; each argument reads behind the call as it read before'; 0 by the template 'total and deterministic' (their statements: YtlnifplomlnoiaaTotals.lean).
  GIVEN WITH THE SEED: the statements are not yours to turn. If you find one false, say at which input.
  Laid BY PROGRAM, IN A SANDBOX (cutbox-rows.mjs): the forced cells as the released guide's own fill.sh prints them over the translation 1015ad00552adbcb… (all of the seat's roots in one cut). By AI agents, Wed Nov 11 2026. No macro, syntax, notation, axiom, sorry.
-/
import Derived.Test.YtlnifplomlnoiaaChecked
import GoSem.Claim
import GoSem.ClaimJoined
import GoSem.ClaimMapViews
import Derived.JoinedTies
import Derived.KernelRfl
namespace Go.Proofs.Ytlnifplomlnoiaa
/- THE CELL 'sum', in the pinned program and in every row, IS THE sha256 OF THE DUMP (.gsa) THAT YtlnifplomlnoiaaProg.lean LOADS. Nothing in Lean hashes anything: it is a label: what it is worth is what the hold of that sum in a sandbox is worth. -/
noncomputable def Try.pinned : Pinned := { name := "ytlnifplomlnoiaa", sum := "1015ad00552adbcba724accc920a09edb0b8238314072f9a090371bd13828e61", checked := Try.checked }
namespace Rows
def none {H : Type} : Left H := { results := [], args := [] }

/-- 'laws.FnBMP': WHATEVER THE INPUT: true; the input reads as it did. -/
def fnBMPSpec : ChangeSpec := { name := "fnBMP", fn := fun _ => fun
  | [d] => { results := [.lit (.bool true)], args := [d] }
  | _ => none }
def fnBMPRow : OpenClaim := { program := "ytlnifplomlnoiaa", sum := "1015ad00552adbcba724accc920a09edb0b8238314072f9a090371bd13828e61", func := "loop.example/pub-g03153/laws.FnBMP", spec := "fnBMP", apart := false }
def FnBMPSaid : Prop := fnBMPRow.holds Try.pinned (OpenSpec.ofChange fnBMPSpec)

/-- ITS FALSE NEIGHBOUR: 'it returns false'. Refute it at one input. -/
def fnBMPWrong : ChangeSpec := { name := "fnBMP", fn := fun _ => fun
  | [d] => { results := [.lit (.bool false)], args := [d] }
  | _ => none }
def FnBMPWrongFalsely : Prop := fnBMPRow.holds Try.pinned (OpenSpec.ofChange fnBMPWrong)

/-- 'laws.FnOfBMP': WHATEVER THE INPUT: true; the input reads as it did. -/
def fnOfBMPSpec : ChangeSpec := { name := "fnOfBMP", fn := fun _ => fun
  | [d1, d2] => { results := [.lit (.bool true)], args := [d1, d2] }
  | _ => none }
def fnOfBMPRow : OpenClaim := { program := "ytlnifplomlnoiaa", sum := "1015ad00552adbcba724accc920a09edb0b8238314072f9a090371bd13828e61", func := "loop.example/pub-g03153/laws.FnOfBMP", spec := "fnOfBMP", apart := false }
def FnOfBMPSaid : Prop := fnOfBMPRow.holds Try.pinned (OpenSpec.ofChange fnOfBMPSpec)

/-- ITS FALSE NEIGHBOUR: 'it returns false'. Refute it at one input. -/
def fnOfBMPWrong : ChangeSpec := { name := "fnOfBMP", fn := fun _ => fun
  | [d1, d2] => { results := [.lit (.bool false)], args := [d1, d2] }
  | _ => none }
def FnOfBMPWrongFalsely : Prop := fnOfBMPRow.holds Try.pinned (OpenSpec.ofChange fnOfBMPWrong)

/-- 'laws.FnEncrypt': WHATEVER THE INPUT: true; the input reads as it did. -/
def fnEncryptSpec : ChangeSpec := { name := "fnEncrypt", fn := fun _ => fun
  | [d1, d2, d3, d4, d5] => { results := [.lit (.bool true)], args := [d1, d2, d3, d4, d5] }
  | _ => none }
def fnEncryptRow : OpenClaim := { program := "ytlnifplomlnoiaa", sum := "1015ad00552adbcba724accc920a09edb0b8238314072f9a090371bd13828e61", func := "loop.example/pub-g03153/laws.FnEncrypt", spec := "fnEncrypt", inPlace := ["internal/bytealg.MakeNoZero"], unfollowed := true, recurses := true, apart := false }
def FnEncryptSaid : Prop := fnEncryptRow.holds Try.pinned (OpenSpec.ofChange fnEncryptSpec)

/-- ITS FALSE NEIGHBOUR: 'it returns false'. Refute it at one input. -/
def fnEncryptWrong : ChangeSpec := { name := "fnEncrypt", fn := fun _ => fun
  | [d1, d2, d3, d4, d5] => { results := [.lit (.bool false)], args := [d1, d2, d3, d4, d5] }
  | _ => none }
def FnEncryptWrongFalsely : Prop := fnEncryptRow.holds Try.pinned (OpenSpec.ofChange fnEncryptWrong)

/- THE SECOND FORM. 'bulk': how many values and letters a reading holds, each counted each time it is reached (what is shared counts as often as it is met; a slice's spare places count too). A statement '..UptoSaid' is the law's where the arguments, and the package variables that the reading takes, are together of bulk at most 1048576: NARROWER than '..Said'. Prove '..Said' where nothing that the law and all that it calls make is longer than what came in: it says more and counts as full. Else prove '..UptoSaid'. A law counts once. -/
mutual
def uptoBulk {H : Type} : DataW H → Nat
  | .lit (.string bytes) => bytes.length + 1
  | .lit _ => 1
  | .nil => 1
  | .ptr d => uptoBulk d + 1
  | .slice elems spare => uptoBulkAll elems + uptoBulkAll spare + 1
  | .agg parts => uptoBulkAll parts + 1
  | .iface _ d => uptoBulk d + 1
  | .map entries => uptoBulkEntries entries + 1
  | .held _ => 1
def uptoBulkAll {H : Type} : List (DataW H) → Nat
  | [] => 0
  | d :: r => uptoBulk d + uptoBulkAll r
def uptoBulkEntries {H : Type} : List (Lit × DataW H) → Nat
  | [] => 0
  | x :: r => uptoBulkEntry x + uptoBulkEntries r
def uptoBulkEntry {H : Type} : Lit × DataW H → Nat
  | (.string bytes, d) => bytes.length + uptoBulk d + 1
  | (_, d) => uptoBulk d + 1
 end
def uptoSmall : (H : Type) → List (DataW H) → Bool := fun _ ds => decide (uptoBulkAll ds ≤ 1048576)
def OpenSpec.upto (s : _root_.Go.ChangeSpec) : _root_.Go.OpenSpec := { _root_.Go.OpenSpec.ofChange s with cond := some uptoSmall }

/-- 'laws.FnBMP', WHERE WHAT IT READS IS OF BULK AT MOST 1048576: true; the input reads as it did. -/
def fnBMPUptoRow : OpenClaim := { program := "ytlnifplomlnoiaa", sum := "1015ad00552adbcba724accc920a09edb0b8238314072f9a090371bd13828e61", func := "loop.example/pub-g03153/laws.FnBMP", spec := "fnBMP", apart := false, narrowed := true }
def FnBMPUptoSaid : Prop := fnBMPUptoRow.holds Try.pinned (OpenSpec.upto fnBMPSpec)

/-- 'laws.FnOfBMP', WHERE WHAT IT READS IS OF BULK AT MOST 1048576: true; the input reads as it did. -/
def fnOfBMPUptoRow : OpenClaim := { program := "ytlnifplomlnoiaa", sum := "1015ad00552adbcba724accc920a09edb0b8238314072f9a090371bd13828e61", func := "loop.example/pub-g03153/laws.FnOfBMP", spec := "fnOfBMP", apart := false, narrowed := true }
def FnOfBMPUptoSaid : Prop := fnOfBMPUptoRow.holds Try.pinned (OpenSpec.upto fnOfBMPSpec)

/-- 'laws.FnEncrypt', WHERE WHAT IT READS IS OF BULK AT MOST 1048576: true; the input reads as it did. -/
def fnEncryptUptoRow : OpenClaim := { program := "ytlnifplomlnoiaa", sum := "1015ad00552adbcba724accc920a09edb0b8238314072f9a090371bd13828e61", func := "loop.example/pub-g03153/laws.FnEncrypt", spec := "fnEncrypt", inPlace := ["internal/bytealg.MakeNoZero"], unfollowed := true, recurses := true, apart := false, narrowed := true }
def FnEncryptUptoSaid : Prop := fnEncryptUptoRow.holds Try.pinned (OpenSpec.upto fnEncryptSpec)

end Rows
end Go.Proofs.Ytlnifplomlnoiaa
