/-
  DERIVED. GIVEN WITH THE SEED: THE PROGRAM's TIES (one call each: nine closed facts by the kernel) AND EACH ROW's TIE, after the 31st guide's Derived/Test/Toyas{Tie, Card}.lean. No idea stands in it: it is a product of the set-up. Laid BY PROGRAM, IN A SANDBOX (cutbox-door.mjs). By AI agents, Wed Nov 11 2026. No macro, syntax, notation, axiom, sorry.
-/
import Derived.Test.YtlnifplomlnoiaaDoorRows
import Derived.LaidByTextLater
import Derived.SevenTiedAt
import Derived.LaidSub
import Derived.LaidOnce
namespace Go.Proofs.YtlnifplomlnoiaaDoor
open Go
set_option maxRecDepth 100000
theorem seatTie1 : Tryd.prog.laidByTextLater [("loop.example/pub-g03153/pub/rc2.piTable", Rows.laid_loop_example_pub_g03153_pub_rc2_piTable), ("loop.example/pub-g03153/pub/pkcs12.ErrDecryption", Rows.laid_loop_example_pub_g03153_pub_pkcs12_ErrDecryption)] [.data, .sentinel] true :=
  Program.laidByTextLater_by_one 62 8 257 (by kernel_rfl) (by kernel_rfl) (by kernel_rfl) (by kernel_rfl) (by kernel_rfl) (by kernel_rfl) (fun _ _ => by kernel_rfl)
theorem seatTie2 : Tryd.prog.laidByTextLater [("loop.example/pub-g03153/pub/pkcs12.ErrIncorrectPassword", Rows.laid_loop_example_pub_g03153_pub_pkcs12_ErrIncorrectPassword), ("loop.example/pub-g03153/pub/pkcs12.zzRounds512", Rows.laid_loop_example_pub_g03153_pub_pkcs12_zzRounds512)] [.sentinel, .data] true :=
  Program.laidByTextLater_by_one 62 8 257 (by kernel_rfl) (by kernel_rfl) (by kernel_rfl) (by kernel_rfl) (by kernel_rfl) (by kernel_rfl) (fun _ _ => by kernel_rfl)
theorem noOwnUnsafe : Tryd.pinned.checked.prog.headLifts.contains "ownunsafe" = false := by kernel_rfl
theorem tie : Tryd.prog.laidByTextLater [("loop.example/pub-g03153/pub/rc2.piTable", Rows.laid_loop_example_pub_g03153_pub_rc2_piTable)] [.data] true :=
  Program.laidByTextLater.sub seatTie1 ["loop.example/pub-g03153/pub/rc2.piTable"] (by kernel_rfl) (by kernel_rfl)
theorem fnBlockBack_row_tie : Rows.fnBlockBackRow.laidByTextAt .later Tryd.pinned [.data] true :=
  OpenClaim.laidByTextAt_later rfl rfl tie noOwnUnsafe
theorem fnDecryptBlock_row_tie : Rows.fnDecryptBlockRow.laidByTextAt .later Tryd.pinned [.data] true :=
  OpenClaim.laidByTextAt_later rfl rfl tie noOwnUnsafe
theorem fnEncryptBlock_row_tie : Rows.fnEncryptBlockRow.laidByTextAt .later Tryd.pinned [.data] true :=
  OpenClaim.laidByTextAt_later rfl rfl tie noOwnUnsafe
theorem tie2 : Tryd.prog.laidByTextLater [("loop.example/pub-g03153/pub/pkcs12.zzRounds512", Rows.laid_loop_example_pub_g03153_pub_pkcs12_zzRounds512)] [.data] true :=
  Program.laidByTextLater.sub seatTie2 ["loop.example/pub-g03153/pub/pkcs12.zzRounds512"] (by kernel_rfl) (by kernel_rfl)
theorem fnDerive_row_tie : Rows.fnDeriveRow.laidByTextAt .later Tryd.pinned [.data] true :=
  OpenClaim.laidByTextAt_later rfl rfl tie2 noOwnUnsafe
theorem fnShorter_row_tie : Rows.fnShorterRow.laidByTextAt .later Tryd.pinned [.data] true :=
  OpenClaim.laidByTextAt_later rfl rfl tie2 noOwnUnsafe
theorem fnMac_row_tie : Rows.fnMacRow.laidByTextAt .later Tryd.pinned [.data] true :=
  OpenClaim.laidByTextAt_later rfl rfl tie2 noOwnUnsafe
theorem tie3 : Tryd.prog.laidByTextLater [("loop.example/pub-g03153/pub/pkcs12.ErrIncorrectPassword", Rows.laid_loop_example_pub_g03153_pub_pkcs12_ErrIncorrectPassword), ("loop.example/pub-g03153/pub/pkcs12.zzRounds512", Rows.laid_loop_example_pub_g03153_pub_pkcs12_zzRounds512)] [.sentinel, .data] true :=
  Program.laidByTextLater.sub seatTie2 ["loop.example/pub-g03153/pub/pkcs12.ErrIncorrectPassword", "loop.example/pub-g03153/pub/pkcs12.zzRounds512"] (by kernel_rfl) (by kernel_rfl)
theorem fnVerify_row_tie : Rows.fnVerifyRow.laidByTextAt .later Tryd.pinned [.sentinel, .data] true :=
  OpenClaim.laidByTextAt_later rfl rfl tie3 noOwnUnsafe
theorem tie4 : Tryd.prog.laidByTextLater [("loop.example/pub-g03153/pub/pkcs12.ErrDecryption", Rows.laid_loop_example_pub_g03153_pub_pkcs12_ErrDecryption)] [.sentinel] true :=
  Program.laidByTextLater.sub seatTie1 ["loop.example/pub-g03153/pub/pkcs12.ErrDecryption"] (by kernel_rfl) (by kernel_rfl)
theorem fnDecrypt_row_tie : Rows.fnDecryptRow.laidByTextAt .later Tryd.pinned [.sentinel] true :=
  OpenClaim.laidByTextAt_later rfl rfl tie4 noOwnUnsafe
theorem fnPadding_row_tie : Rows.fnPaddingRow.laidByTextAt .later Tryd.pinned [.sentinel] true :=
  OpenClaim.laidByTextAt_later rfl rfl tie4 noOwnUnsafe
theorem fnBlockBackUpto_row_tie : Rows.fnBlockBackUptoRow.laidByTextAt .later Tryd.pinned [.data] true :=
  OpenClaim.laidByTextAt_later rfl rfl tie noOwnUnsafe
theorem fnDecryptBlockUpto_row_tie : Rows.fnDecryptBlockUptoRow.laidByTextAt .later Tryd.pinned [.data] true :=
  OpenClaim.laidByTextAt_later rfl rfl tie noOwnUnsafe
theorem fnEncryptBlockUpto_row_tie : Rows.fnEncryptBlockUptoRow.laidByTextAt .later Tryd.pinned [.data] true :=
  OpenClaim.laidByTextAt_later rfl rfl tie noOwnUnsafe
theorem fnDeriveUpto_row_tie : Rows.fnDeriveUptoRow.laidByTextAt .later Tryd.pinned [.data] true :=
  OpenClaim.laidByTextAt_later rfl rfl tie2 noOwnUnsafe
theorem fnShorterUpto_row_tie : Rows.fnShorterUptoRow.laidByTextAt .later Tryd.pinned [.data] true :=
  OpenClaim.laidByTextAt_later rfl rfl tie2 noOwnUnsafe
theorem fnMacUpto_row_tie : Rows.fnMacUptoRow.laidByTextAt .later Tryd.pinned [.data] true :=
  OpenClaim.laidByTextAt_later rfl rfl tie2 noOwnUnsafe
theorem fnVerifyUpto_row_tie : Rows.fnVerifyUptoRow.laidByTextAt .later Tryd.pinned [.sentinel, .data] true :=
  OpenClaim.laidByTextAt_later rfl rfl tie3 noOwnUnsafe
theorem fnDecryptUpto_row_tie : Rows.fnDecryptUptoRow.laidByTextAt .later Tryd.pinned [.sentinel] true :=
  OpenClaim.laidByTextAt_later rfl rfl tie4 noOwnUnsafe
theorem fnPaddingUpto_row_tie : Rows.fnPaddingUptoRow.laidByTextAt .later Tryd.pinned [.sentinel] true :=
  OpenClaim.laidByTextAt_later rfl rfl tie4 noOwnUnsafe
end Go.Proofs.YtlnifplomlnoiaaDoor
