/-
  DERIVED. GIVEN WITH THE SEED: THE CARDS: each row of YtlnifplomlnoiaaDoorRows.lean that lists a variable, with what it lists TIED to the program's text (the seventh form; the later family's looks); each row that meets fmt, with fmt's text TOLD by the authors' own Lean function (tested against real Go, not proved from fmt's source: count such statements apart). THE CARD IS WHAT COUNTS. Prove the row's statement (the work); the ties are given (YtlnifplomlnoiaaDoorTie.lean); close each card by the builder's one call (the guide's Derived/Test/ToyasCard.lean, 'card_holds'). Laid BY PROGRAM, IN A SANDBOX (cutbox-door.mjs). By AI agents, Wed Nov 11 2026. No macro, syntax, notation, axiom, sorry.
-/
import Derived.Test.YtlnifplomlnoiaaDoorRows
import GoSem.ClaimSeven
namespace Go.Proofs.YtlnifplomlnoiaaDoor
namespace Rows

/-- THE TIED CARD OF 'laws.FnBlockBack'. -/
def fnBlockBackCard : Claim7 := { stood := { row := fnBlockBackRow, standIns := [], harness := (true, "3d83ac65a8be49a9c6777f224d73b89f0fe9b02db2e78bdfde2eaa99c3b80e14"), looks := false }, kinds := [], alts := [], laidByText := true, laidKinds := [.data], laidTests := true, laidLooks := .later }
def FnBlockBackCardSaid : Prop := Claim7.holds Tryd.pinned (.plain (OpenSpec.ofChange fnBlockBackSpec)) fnBlockBackCard

/-- THE TIED CARD OF 'laws.FnDecryptBlock'. -/
def fnDecryptBlockCard : Claim7 := { stood := { row := fnDecryptBlockRow, standIns := [], harness := (true, "3d83ac65a8be49a9c6777f224d73b89f0fe9b02db2e78bdfde2eaa99c3b80e14"), looks := false }, kinds := [], alts := [], laidByText := true, laidKinds := [.data], laidTests := true, laidLooks := .later }
def FnDecryptBlockCardSaid : Prop := Claim7.holds Tryd.pinned (.plain (OpenSpec.ofChange fnDecryptBlockSpec)) fnDecryptBlockCard

/-- THE TIED CARD OF 'laws.FnEncryptBlock'. -/
def fnEncryptBlockCard : Claim7 := { stood := { row := fnEncryptBlockRow, standIns := [], harness := (true, "3d83ac65a8be49a9c6777f224d73b89f0fe9b02db2e78bdfde2eaa99c3b80e14"), looks := false }, kinds := [], alts := [], laidByText := true, laidKinds := [.data], laidTests := true, laidLooks := .later }
def FnEncryptBlockCardSaid : Prop := Claim7.holds Tryd.pinned (.plain (OpenSpec.ofChange fnEncryptBlockSpec)) fnEncryptBlockCard

/-- THE TIED CARD OF 'laws.FnDerive'. -/
def fnDeriveCard : Claim7 := { stood := { row := fnDeriveRow, standIns := [], harness := (true, "3d83ac65a8be49a9c6777f224d73b89f0fe9b02db2e78bdfde2eaa99c3b80e14"), looks := false }, kinds := [], alts := [], laidByText := true, laidKinds := [.data], laidTests := true, laidLooks := .later }
def FnDeriveCardSaid : Prop := Claim7.holds Tryd.pinned (.plain (OpenSpec.ofChange fnDeriveSpec)) fnDeriveCard

/-- THE TIED CARD OF 'laws.FnShorter'. -/
def fnShorterCard : Claim7 := { stood := { row := fnShorterRow, standIns := [], harness := (true, "3d83ac65a8be49a9c6777f224d73b89f0fe9b02db2e78bdfde2eaa99c3b80e14"), looks := false }, kinds := [], alts := [], laidByText := true, laidKinds := [.data], laidTests := true, laidLooks := .later }
def FnShorterCardSaid : Prop := Claim7.holds Tryd.pinned (.plain (OpenSpec.ofChange fnShorterSpec)) fnShorterCard

/-- THE TIED CARD OF 'laws.FnMac'. -/
def fnMacCard : Claim7 := { stood := { row := fnMacRow, standIns := [], harness := (true, "3d83ac65a8be49a9c6777f224d73b89f0fe9b02db2e78bdfde2eaa99c3b80e14"), looks := false }, kinds := [], alts := [], laidByText := true, laidKinds := [.data], laidTests := true, laidLooks := .later }
def FnMacCardSaid : Prop := Claim7.holds Tryd.pinned (.plain (OpenSpec.ofChange fnMacSpec)) fnMacCard

/-- THE TIED CARD OF 'laws.FnVerify'. -/
def fnVerifyCard : Claim7 := { stood := { row := fnVerifyRow, standIns := [], harness := (true, "3d83ac65a8be49a9c6777f224d73b89f0fe9b02db2e78bdfde2eaa99c3b80e14"), looks := false }, kinds := [], alts := [], laidByText := true, laidKinds := [.sentinel, .data], laidTests := true, laidLooks := .later }
def FnVerifyCardSaid : Prop := Claim7.holds Tryd.pinned (.plain (OpenSpec.ofChange fnVerifySpec)) fnVerifyCard

/-- THE TIED CARD OF 'laws.FnDecrypt'. -/
def fnDecryptCard : Claim7 := { stood := { row := fnDecryptRow, standIns := [], harness := (true, "3d83ac65a8be49a9c6777f224d73b89f0fe9b02db2e78bdfde2eaa99c3b80e14"), looks := false }, kinds := [], alts := [], laidByText := true, laidKinds := [.sentinel], laidTests := true, laidLooks := .later }
def FnDecryptCardSaid : Prop := Claim7.holds Tryd.pinned (.plain (OpenSpec.ofChange fnDecryptSpec)) fnDecryptCard

/-- THE TIED CARD OF 'laws.FnPadding'. -/
def fnPaddingCard : Claim7 := { stood := { row := fnPaddingRow, standIns := [], harness := (true, "3d83ac65a8be49a9c6777f224d73b89f0fe9b02db2e78bdfde2eaa99c3b80e14"), looks := false }, kinds := [], alts := [], laidByText := true, laidKinds := [.sentinel], laidTests := true, laidLooks := .later }
def FnPaddingCardSaid : Prop := Claim7.holds Tryd.pinned (.plain (OpenSpec.ofChange fnPaddingSpec)) fnPaddingCard

/-- THE SECOND FORM's CARD OF 'laws.FnBlockBack'. -/
def fnBlockBackUptoCard : Claim7 := { stood := { row := fnBlockBackUptoRow, standIns := [], harness := (true, "3d83ac65a8be49a9c6777f224d73b89f0fe9b02db2e78bdfde2eaa99c3b80e14"), looks := false }, kinds := [], alts := [], laidByText := true, laidKinds := [.data], laidTests := true, laidLooks := .later }
def FnBlockBackUptoCardSaid : Prop := Claim7.holds Tryd.pinned (.plain (OpenSpec.upto fnBlockBackSpec)) fnBlockBackUptoCard

/-- THE SECOND FORM's CARD OF 'laws.FnDecryptBlock'. -/
def fnDecryptBlockUptoCard : Claim7 := { stood := { row := fnDecryptBlockUptoRow, standIns := [], harness := (true, "3d83ac65a8be49a9c6777f224d73b89f0fe9b02db2e78bdfde2eaa99c3b80e14"), looks := false }, kinds := [], alts := [], laidByText := true, laidKinds := [.data], laidTests := true, laidLooks := .later }
def FnDecryptBlockUptoCardSaid : Prop := Claim7.holds Tryd.pinned (.plain (OpenSpec.upto fnDecryptBlockSpec)) fnDecryptBlockUptoCard

/-- THE SECOND FORM's CARD OF 'laws.FnEncryptBlock'. -/
def fnEncryptBlockUptoCard : Claim7 := { stood := { row := fnEncryptBlockUptoRow, standIns := [], harness := (true, "3d83ac65a8be49a9c6777f224d73b89f0fe9b02db2e78bdfde2eaa99c3b80e14"), looks := false }, kinds := [], alts := [], laidByText := true, laidKinds := [.data], laidTests := true, laidLooks := .later }
def FnEncryptBlockUptoCardSaid : Prop := Claim7.holds Tryd.pinned (.plain (OpenSpec.upto fnEncryptBlockSpec)) fnEncryptBlockUptoCard

/-- THE SECOND FORM's CARD OF 'laws.FnDerive'. -/
def fnDeriveUptoCard : Claim7 := { stood := { row := fnDeriveUptoRow, standIns := [], harness := (true, "3d83ac65a8be49a9c6777f224d73b89f0fe9b02db2e78bdfde2eaa99c3b80e14"), looks := false }, kinds := [], alts := [], laidByText := true, laidKinds := [.data], laidTests := true, laidLooks := .later }
def FnDeriveUptoCardSaid : Prop := Claim7.holds Tryd.pinned (.plain (OpenSpec.upto fnDeriveSpec)) fnDeriveUptoCard

/-- THE SECOND FORM's CARD OF 'laws.FnShorter'. -/
def fnShorterUptoCard : Claim7 := { stood := { row := fnShorterUptoRow, standIns := [], harness := (true, "3d83ac65a8be49a9c6777f224d73b89f0fe9b02db2e78bdfde2eaa99c3b80e14"), looks := false }, kinds := [], alts := [], laidByText := true, laidKinds := [.data], laidTests := true, laidLooks := .later }
def FnShorterUptoCardSaid : Prop := Claim7.holds Tryd.pinned (.plain (OpenSpec.upto fnShorterSpec)) fnShorterUptoCard

/-- THE SECOND FORM's CARD OF 'laws.FnMac'. -/
def fnMacUptoCard : Claim7 := { stood := { row := fnMacUptoRow, standIns := [], harness := (true, "3d83ac65a8be49a9c6777f224d73b89f0fe9b02db2e78bdfde2eaa99c3b80e14"), looks := false }, kinds := [], alts := [], laidByText := true, laidKinds := [.data], laidTests := true, laidLooks := .later }
def FnMacUptoCardSaid : Prop := Claim7.holds Tryd.pinned (.plain (OpenSpec.upto fnMacSpec)) fnMacUptoCard

/-- THE SECOND FORM's CARD OF 'laws.FnVerify'. -/
def fnVerifyUptoCard : Claim7 := { stood := { row := fnVerifyUptoRow, standIns := [], harness := (true, "3d83ac65a8be49a9c6777f224d73b89f0fe9b02db2e78bdfde2eaa99c3b80e14"), looks := false }, kinds := [], alts := [], laidByText := true, laidKinds := [.sentinel, .data], laidTests := true, laidLooks := .later }
def FnVerifyUptoCardSaid : Prop := Claim7.holds Tryd.pinned (.plain (OpenSpec.upto fnVerifySpec)) fnVerifyUptoCard

/-- THE SECOND FORM's CARD OF 'laws.FnDecrypt'. -/
def fnDecryptUptoCard : Claim7 := { stood := { row := fnDecryptUptoRow, standIns := [], harness := (true, "3d83ac65a8be49a9c6777f224d73b89f0fe9b02db2e78bdfde2eaa99c3b80e14"), looks := false }, kinds := [], alts := [], laidByText := true, laidKinds := [.sentinel], laidTests := true, laidLooks := .later }
def FnDecryptUptoCardSaid : Prop := Claim7.holds Tryd.pinned (.plain (OpenSpec.upto fnDecryptSpec)) fnDecryptUptoCard

/-- THE SECOND FORM's CARD OF 'laws.FnPadding'. -/
def fnPaddingUptoCard : Claim7 := { stood := { row := fnPaddingUptoRow, standIns := [], harness := (true, "3d83ac65a8be49a9c6777f224d73b89f0fe9b02db2e78bdfde2eaa99c3b80e14"), looks := false }, kinds := [], alts := [], laidByText := true, laidKinds := [.sentinel], laidTests := true, laidLooks := .later }
def FnPaddingUptoCardSaid : Prop := Claim7.holds Tryd.pinned (.plain (OpenSpec.upto fnPaddingSpec)) fnPaddingUptoCard
end Rows
end Go.Proofs.YtlnifplomlnoiaaDoor
