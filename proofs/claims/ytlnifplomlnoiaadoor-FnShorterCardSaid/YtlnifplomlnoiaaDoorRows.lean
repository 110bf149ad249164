/-
  NARROWER THAN 'FOR EVERY INPUT', by the rows' own cells (each row's printed sentence says how): FnBlockBack: laid · FnDecryptBlock: laid · FnEncryptBlock: laid · FnDerive: laid · FnShorter: laid · FnMac: laid · FnVerify: ifaces, laid · FnDecrypt: ifaces, laid · FnPadding: ifaces, laid.
  DERIVED. THE GIVEN ROWS OF THIS SEAT. 9 by the template 'for every input the law returns true; each argument reads behind the call as it read before'; 0 by the template 'total and deterministic' (their statements: YtlnifplomlnoiaaDoorTotals.lean).
  GIVEN WITH THE SEED: the statements are not yours to turn. If you find one false, say at which input.
  Laid BY PROGRAM, IN A SANDBOX (cutbox-rows.mjs): the forced cells as the released guide's own fill.sh prints them over the translation 30d515c11d8fa845… (all of the seat's roots in one cut). By AI agents, Wed Nov 11 2026. No macro, syntax, notation, axiom, sorry.
-/
import Derived.Test.YtlnifplomlnoiaaDoorChecked
import GoSem.Claim
import GoSem.ClaimJoined
import GoSem.ClaimMapViews
import Derived.JoinedTies
import Derived.KernelRfl
namespace Go.Proofs.YtlnifplomlnoiaaDoor
/- THE CELL 'sum', in the pinned program and in every row, IS THE sha256 OF THE DUMP (.gsa) THAT YtlnifplomlnoiaaDoorProg.lean LOADS. Nothing in Lean hashes anything: it is a label: what it is worth is what the hold of that sum in a sandbox is worth. -/
noncomputable def Tryd.pinned : Pinned := { name := "ytlnifplomlnoiaadoor", sum := "30d515c11d8fa84520dc133a557fe0a22bb9828e6c0dc6698cddeb75adea51af", checked := Tryd.checked }
namespace Rows
def none {H : Type} : Left H := { results := [], args := [] }

/- WHAT THE LISTED PACKAGE-LEVEL VARIABLES READ AS WHEN THE CALL BEGINS. Each datum BY PROGRAM (the guide's laid-datum.mjs) off the statement by which the dump's own 'gosem.cut.vars' lays the variable. In a bare row this is a premise. The card (YtlnifplomlnoiaaDoorCards.lean) ties it to the program's text. -/
def laid_loop_example_pub_g03153_pub_rc2_piTable {H : Type} : DataW H := .agg [.lit (.int .u8 217), .lit (.int .u8 120), .lit (.int .u8 249), .lit (.int .u8 196), .lit (.int .u8 25), .lit (.int .u8 221), .lit (.int .u8 181), .lit (.int .u8 237), .lit (.int .u8 40), .lit (.int .u8 233), .lit (.int .u8 253), .lit (.int .u8 121), .lit (.int .u8 74), .lit (.int .u8 160), .lit (.int .u8 216), .lit (.int .u8 157), .lit (.int .u8 198), .lit (.int .u8 126), .lit (.int .u8 55), .lit (.int .u8 131), .lit (.int .u8 43), .lit (.int .u8 118), .lit (.int .u8 83), .lit (.int .u8 142), .lit (.int .u8 98), .lit (.int .u8 76), .lit (.int .u8 100), .lit (.int .u8 136), .lit (.int .u8 68), .lit (.int .u8 139), .lit (.int .u8 251), .lit (.int .u8 162), .lit (.int .u8 23), .lit (.int .u8 154), .lit (.int .u8 89), .lit (.int .u8 245), .lit (.int .u8 135), .lit (.int .u8 179), .lit (.int .u8 79), .lit (.int .u8 19), .lit (.int .u8 97), .lit (.int .u8 69), .lit (.int .u8 109), .lit (.int .u8 141), .lit (.int .u8 9), .lit (.int .u8 129), .lit (.int .u8 125), .lit (.int .u8 50), .lit (.int .u8 189), .lit (.int .u8 143), .lit (.int .u8 64), .lit (.int .u8 235), .lit (.int .u8 134), .lit (.int .u8 183), .lit (.int .u8 123), .lit (.int .u8 11), .lit (.int .u8 240), .lit (.int .u8 149), .lit (.int .u8 33), .lit (.int .u8 34), .lit (.int .u8 92), .lit (.int .u8 107), .lit (.int .u8 78), .lit (.int .u8 130), .lit (.int .u8 84), .lit (.int .u8 214), .lit (.int .u8 101), .lit (.int .u8 147), .lit (.int .u8 206), .lit (.int .u8 96), .lit (.int .u8 178), .lit (.int .u8 28), .lit (.int .u8 115), .lit (.int .u8 86), .lit (.int .u8 192), .lit (.int .u8 20), .lit (.int .u8 167), .lit (.int .u8 140), .lit (.int .u8 241), .lit (.int .u8 220), .lit (.int .u8 18), .lit (.int .u8 117), .lit (.int .u8 202), .lit (.int .u8 31), .lit (.int .u8 59), .lit (.int .u8 190), .lit (.int .u8 228), .lit (.int .u8 209), .lit (.int .u8 66), .lit (.int .u8 61), .lit (.int .u8 212), .lit (.int .u8 48), .lit (.int .u8 163), .lit (.int .u8 60), .lit (.int .u8 182), .lit (.int .u8 38), .lit (.int .u8 111), .lit (.int .u8 191), .lit (.int .u8 14), .lit (.int .u8 218), .lit (.int .u8 70), .lit (.int .u8 105), .lit (.int .u8 7), .lit (.int .u8 87), .lit (.int .u8 39), .lit (.int .u8 242), .lit (.int .u8 29), .lit (.int .u8 155), .lit (.int .u8 188), .lit (.int .u8 148), .lit (.int .u8 67), .lit (.int .u8 3), .lit (.int .u8 248), .lit (.int .u8 17), .lit (.int .u8 199), .lit (.int .u8 246), .lit (.int .u8 144), .lit (.int .u8 239), .lit (.int .u8 62), .lit (.int .u8 231), .lit (.int .u8 6), .lit (.int .u8 195), .lit (.int .u8 213), .lit (.int .u8 47), .lit (.int .u8 200), .lit (.int .u8 102), .lit (.int .u8 30), .lit (.int .u8 215), .lit (.int .u8 8), .lit (.int .u8 232), .lit (.int .u8 234), .lit (.int .u8 222), .lit (.int .u8 128), .lit (.int .u8 82), .lit (.int .u8 238), .lit (.int .u8 247), .lit (.int .u8 132), .lit (.int .u8 170), .lit (.int .u8 114), .lit (.int .u8 172), .lit (.int .u8 53), .lit (.int .u8 77), .lit (.int .u8 106), .lit (.int .u8 42), .lit (.int .u8 150), .lit (.int .u8 26), .lit (.int .u8 210), .lit (.int .u8 113), .lit (.int .u8 90), .lit (.int .u8 21), .lit (.int .u8 73), .lit (.int .u8 116), .lit (.int .u8 75), .lit (.int .u8 159), .lit (.int .u8 208), .lit (.int .u8 94), .lit (.int .u8 4), .lit (.int .u8 24), .lit (.int .u8 164), .lit (.int .u8 236), .lit (.int .u8 194), .lit (.int .u8 224), .lit (.int .u8 65), .lit (.int .u8 110), .lit (.int .u8 15), .lit (.int .u8 81), .lit (.int .u8 203), .lit (.int .u8 204), .lit (.int .u8 36), .lit (.int .u8 145), .lit (.int .u8 175), .lit (.int .u8 80), .lit (.int .u8 161), .lit (.int .u8 244), .lit (.int .u8 112), .lit (.int .u8 57), .lit (.int .u8 153), .lit (.int .u8 124), .lit (.int .u8 58), .lit (.int .u8 133), .lit (.int .u8 35), .lit (.int .u8 184), .lit (.int .u8 180), .lit (.int .u8 122), .lit (.int .u8 252), .lit (.int .u8 2), .lit (.int .u8 54), .lit (.int .u8 91), .lit (.int .u8 37), .lit (.int .u8 85), .lit (.int .u8 151), .lit (.int .u8 49), .lit (.int .u8 45), .lit (.int .u8 93), .lit (.int .u8 250), .lit (.int .u8 152), .lit (.int .u8 227), .lit (.int .u8 138), .lit (.int .u8 146), .lit (.int .u8 174), .lit (.int .u8 5), .lit (.int .u8 223), .lit (.int .u8 41), .lit (.int .u8 16), .lit (.int .u8 103), .lit (.int .u8 108), .lit (.int .u8 186), .lit (.int .u8 201), .lit (.int .u8 211), .lit (.int .u8 0), .lit (.int .u8 230), .lit (.int .u8 207), .lit (.int .u8 225), .lit (.int .u8 158), .lit (.int .u8 168), .lit (.int .u8 44), .lit (.int .u8 99), .lit (.int .u8 22), .lit (.int .u8 1), .lit (.int .u8 63), .lit (.int .u8 88), .lit (.int .u8 226), .lit (.int .u8 137), .lit (.int .u8 169), .lit (.int .u8 13), .lit (.int .u8 56), .lit (.int .u8 52), .lit (.int .u8 27), .lit (.int .u8 171), .lit (.int .u8 51), .lit (.int .u8 255), .lit (.int .u8 176), .lit (.int .u8 187), .lit (.int .u8 72), .lit (.int .u8 12), .lit (.int .u8 95), .lit (.int .u8 185), .lit (.int .u8 177), .lit (.int .u8 205), .lit (.int .u8 46), .lit (.int .u8 197), .lit (.int .u8 243), .lit (.int .u8 219), .lit (.int .u8 71), .lit (.int .u8 229), .lit (.int .u8 165), .lit (.int .u8 156), .lit (.int .u8 119), .lit (.int .u8 10), .lit (.int .u8 166), .lit (.int .u8 32), .lit (.int .u8 104), .lit (.int .u8 254), .lit (.int .u8 127), .lit (.int .u8 193), .lit (.int .u8 173)]
def laid_loop_example_pub_g03153_pub_pkcs12_zzRounds512 {H : Type} : DataW H := .agg [.lit (.int .u64 4794697086780616226), .lit (.int .u64 8158064640168781261), .lit (.int .u64 13096744586834688815), .lit (.int .u64 16840607885511220156), .lit (.int .u64 4131703408338449720), .lit (.int .u64 6480981068601479193), .lit (.int .u64 10538285296894168987), .lit (.int .u64 12329834152419229976), .lit (.int .u64 15566598209576043074), .lit (.int .u64 1334009975649890238), .lit (.int .u64 2608012711638119052), .lit (.int .u64 6128411473006802146), .lit (.int .u64 8268148722764581231), .lit (.int .u64 9286055187155687089), .lit (.int .u64 11230858885718282805), .lit (.int .u64 13951009754708518548), .lit (.int .u64 16472876342353939154), .lit (.int .u64 17275323862435702243), .lit (.int .u64 1135362057144423861), .lit (.int .u64 2597628984639134821), .lit (.int .u64 3308224258029322869), .lit (.int .u64 5365058923640841347), .lit (.int .u64 6679025012923562964), .lit (.int .u64 8573033837759648693), .lit (.int .u64 10970295158949994411), .lit (.int .u64 12119686244451234320), .lit (.int .u64 12683024718118986047), .lit (.int .u64 13788192230050041572), .lit (.int .u64 14330467153632333762), .lit (.int .u64 15395433587784984357), .lit (.int .u64 489312712824947311), .lit (.int .u64 1452737877330783856), .lit (.int .u64 2861767655752347644), .lit (.int .u64 3322285676063803686), .lit (.int .u64 5560940570517711597), .lit (.int .u64 5996557281743188959), .lit (.int .u64 7280758554555802590), .lit (.int .u64 8532644243296465576), .lit (.int .u64 9350256976987008742), .lit (.int .u64 10552545826968843579), .lit (.int .u64 11727347734174303076), .lit (.int .u64 12113106623233404929), .lit (.int .u64 14000437183269869457), .lit (.int .u64 14369950271660146224), .lit (.int .u64 15101387698204529176), .lit (.int .u64 15463397548674623760), .lit (.int .u64 17586052441742319658), .lit (.int .u64 1182934255886127544), .lit (.int .u64 1847814050463011016), .lit (.int .u64 2177327727835720531), .lit (.int .u64 2830643537854262169), .lit (.int .u64 3796741975233480872), .lit (.int .u64 4115178125766777443), .lit (.int .u64 5681478168544905931), .lit (.int .u64 6601373596472566643), .lit (.int .u64 7507060721942968483), .lit (.int .u64 8399075790359081724), .lit (.int .u64 8693463985226723168), .lit (.int .u64 9568029438360202098), .lit (.int .u64 10144078919501101548), .lit (.int .u64 10430055236837252648), .lit (.int .u64 11840083180663258601), .lit (.int .u64 13761210420658862357), .lit (.int .u64 14299343276471374635), .lit (.int .u64 14566680578165727644), .lit (.int .u64 15097957966210449927), .lit (.int .u64 16922976911328602910), .lit (.int .u64 17689382322260857208), .lit (.int .u64 500013540394364858), .lit (.int .u64 748580250866718886), .lit (.int .u64 1242879168328830382), .lit (.int .u64 1977374033974150939), .lit (.int .u64 2944078676154940804), .lit (.int .u64 3659926193048069267), .lit (.int .u64 4368137639120453308), .lit (.int .u64 4836135668995329356), .lit (.int .u64 5532061633213252278), .lit (.int .u64 6448918945643986474), .lit (.int .u64 6902733635092675308), .lit (.int .u64 7801388544844847127)]
def laid_loop_example_pub_g03153_pub_pkcs12_ErrIncorrectPassword {H : Type} : DataW H := .iface "*errors.errorString" (.ptr (.agg [.lit (.string [112, 107, 99, 115, 49, 50, 58, 32, 100, 101, 99, 114, 121, 112, 116, 105, 111, 110, 32, 112, 97, 115, 115, 119, 111, 114, 100, 32, 105, 110, 99, 111, 114, 114, 101, 99, 116])]))
def laid_loop_example_pub_g03153_pub_pkcs12_ErrDecryption {H : Type} : DataW H := .iface "*errors.errorString" (.ptr (.agg [.lit (.string [112, 107, 99, 115, 49, 50, 58, 32, 100, 101, 99, 114, 121, 112, 116, 105, 111, 110, 32, 101, 114, 114, 111, 114, 44, 32, 105, 110, 99, 111, 114, 114, 101, 99, 116, 32, 112, 97, 100, 100, 105, 110, 103])]))

/-- 'laws.FnBlockBack': WHATEVER THE INPUT: true; the input reads as it did. -/
def fnBlockBackSpec : ChangeSpec := { name := "fnBlockBack", vars := ["loop.example/pub-g03153/pub/rc2.piTable"], fn := fun _ => fun
  | [d1, d2, d3, g1] => { results := [.lit (.bool true)], args := [d1, d2, d3], vars := [g1] }
  | _ => none }
def fnBlockBackRow : OpenClaim := { program := "ytlnifplomlnoiaadoor", sum := "30d515c11d8fa84520dc133a557fe0a22bb9828e6c0dc6698cddeb75adea51af", func := "loop.example/pub-g03153/laws.FnBlockBack", spec := "fnBlockBack", unfollowed := true, recurses := true, named := ["loop.example/pub-g03153/pub/rc2.piTable"], apart := false, laid := [("loop.example/pub-g03153/pub/rc2.piTable", laid_loop_example_pub_g03153_pub_rc2_piTable)] }
def FnBlockBackSaid : Prop := fnBlockBackRow.holds Tryd.pinned (OpenSpec.ofChange fnBlockBackSpec)

/-- ITS FALSE NEIGHBOUR: 'it returns false'. Refute it at one input. -/
def fnBlockBackWrong : ChangeSpec := { name := "fnBlockBack", vars := ["loop.example/pub-g03153/pub/rc2.piTable"], fn := fun _ => fun
  | [d1, d2, d3, g1] => { results := [.lit (.bool false)], args := [d1, d2, d3], vars := [g1] }
  | _ => none }
def FnBlockBackWrongFalsely : Prop := fnBlockBackRow.holds Tryd.pinned (OpenSpec.ofChange fnBlockBackWrong)

/-- 'laws.FnDecryptBlock': WHATEVER THE INPUT: true; the input reads as it did. -/
def fnDecryptBlockSpec : ChangeSpec := { name := "fnDecryptBlock", vars := ["loop.example/pub-g03153/pub/rc2.piTable"], fn := fun _ => fun
  | [d1, d2, d3, g1] => { results := [.lit (.bool true)], args := [d1, d2, d3], vars := [g1] }
  | _ => none }
def fnDecryptBlockRow : OpenClaim := { program := "ytlnifplomlnoiaadoor", sum := "30d515c11d8fa84520dc133a557fe0a22bb9828e6c0dc6698cddeb75adea51af", func := "loop.example/pub-g03153/laws.FnDecryptBlock", spec := "fnDecryptBlock", unfollowed := true, recurses := true, named := ["loop.example/pub-g03153/pub/rc2.piTable"], apart := false, laid := [("loop.example/pub-g03153/pub/rc2.piTable", laid_loop_example_pub_g03153_pub_rc2_piTable)] }
def FnDecryptBlockSaid : Prop := fnDecryptBlockRow.holds Tryd.pinned (OpenSpec.ofChange fnDecryptBlockSpec)

/-- ITS FALSE NEIGHBOUR: 'it returns false'. Refute it at one input. -/
def fnDecryptBlockWrong : ChangeSpec := { name := "fnDecryptBlock", vars := ["loop.example/pub-g03153/pub/rc2.piTable"], fn := fun _ => fun
  | [d1, d2, d3, g1] => { results := [.lit (.bool false)], args := [d1, d2, d3], vars := [g1] }
  | _ => none }
def FnDecryptBlockWrongFalsely : Prop := fnDecryptBlockRow.holds Tryd.pinned (OpenSpec.ofChange fnDecryptBlockWrong)

/-- 'laws.FnEncryptBlock': WHATEVER THE INPUT: true; the input reads as it did. -/
def fnEncryptBlockSpec : ChangeSpec := { name := "fnEncryptBlock", vars := ["loop.example/pub-g03153/pub/rc2.piTable"], fn := fun _ => fun
  | [d1, d2, d3, g1] => { results := [.lit (.bool true)], args := [d1, d2, d3], vars := [g1] }
  | _ => none }
def fnEncryptBlockRow : OpenClaim := { program := "ytlnifplomlnoiaadoor", sum := "30d515c11d8fa84520dc133a557fe0a22bb9828e6c0dc6698cddeb75adea51af", func := "loop.example/pub-g03153/laws.FnEncryptBlock", spec := "fnEncryptBlock", unfollowed := true, recurses := true, named := ["loop.example/pub-g03153/pub/rc2.piTable"], apart := false, laid := [("loop.example/pub-g03153/pub/rc2.piTable", laid_loop_example_pub_g03153_pub_rc2_piTable)] }
def FnEncryptBlockSaid : Prop := fnEncryptBlockRow.holds Tryd.pinned (OpenSpec.ofChange fnEncryptBlockSpec)

/-- ITS FALSE NEIGHBOUR: 'it returns false'. Refute it at one input. -/
def fnEncryptBlockWrong : ChangeSpec := { name := "fnEncryptBlock", vars := ["loop.example/pub-g03153/pub/rc2.piTable"], fn := fun _ => fun
  | [d1, d2, d3, g1] => { results := [.lit (.bool false)], args := [d1, d2, d3], vars := [g1] }
  | _ => none }
def FnEncryptBlockWrongFalsely : Prop := fnEncryptBlockRow.holds Tryd.pinned (OpenSpec.ofChange fnEncryptBlockWrong)

/-- 'laws.FnDerive': WHATEVER THE INPUT: true; the input reads as it did. -/
def fnDeriveSpec : ChangeSpec := { name := "fnDerive", vars := ["loop.example/pub-g03153/pub/pkcs12.zzRounds512"], fn := fun _ => fun
  | [d1, d2, d3, d4, d5, d6, g1] => { results := [.lit (.bool true)], args := [d1, d2, d3, d4, d5, d6], vars := [g1] }
  | _ => none }
def fnDeriveRow : OpenClaim := { program := "ytlnifplomlnoiaadoor", sum := "30d515c11d8fa84520dc133a557fe0a22bb9828e6c0dc6698cddeb75adea51af", func := "loop.example/pub-g03153/laws.FnDerive", spec := "fnDerive", inPlace := ["internal/bytealg.MakeNoZero"], unfollowed := true, recurses := true, named := ["encoding/binary.BigEndian", "loop.example/pub-g03153/pub/pkcs12.zzRounds512"], apart := false, laid := [("loop.example/pub-g03153/pub/pkcs12.zzRounds512", laid_loop_example_pub_g03153_pub_pkcs12_zzRounds512)] }
def FnDeriveSaid : Prop := fnDeriveRow.holds Tryd.pinned (OpenSpec.ofChange fnDeriveSpec)

/-- ITS FALSE NEIGHBOUR: 'it returns false'. Refute it at one input. -/
def fnDeriveWrong : ChangeSpec := { name := "fnDerive", vars := ["loop.example/pub-g03153/pub/pkcs12.zzRounds512"], fn := fun _ => fun
  | [d1, d2, d3, d4, d5, d6, g1] => { results := [.lit (.bool false)], args := [d1, d2, d3, d4, d5, d6], vars := [g1] }
  | _ => none }
def FnDeriveWrongFalsely : Prop := fnDeriveRow.holds Tryd.pinned (OpenSpec.ofChange fnDeriveWrong)

/-- 'laws.FnShorter': WHATEVER THE INPUT: true; the input reads as it did. -/
def fnShorterSpec : ChangeSpec := { name := "fnShorter", vars := ["loop.example/pub-g03153/pub/pkcs12.zzRounds512"], fn := fun _ => fun
  | [d1, d2, d3, d4, d5, d6, g1] => { results := [.lit (.bool true)], args := [d1, d2, d3, d4, d5, d6], vars := [g1] }
  | _ => none }
def fnShorterRow : OpenClaim := { program := "ytlnifplomlnoiaadoor", sum := "30d515c11d8fa84520dc133a557fe0a22bb9828e6c0dc6698cddeb75adea51af", func := "loop.example/pub-g03153/laws.FnShorter", spec := "fnShorter", inPlace := ["internal/bytealg.MakeNoZero"], unfollowed := true, recurses := true, named := ["encoding/binary.BigEndian", "loop.example/pub-g03153/pub/pkcs12.zzRounds512"], apart := false, laid := [("loop.example/pub-g03153/pub/pkcs12.zzRounds512", laid_loop_example_pub_g03153_pub_pkcs12_zzRounds512)] }
def FnShorterSaid : Prop := fnShorterRow.holds Tryd.pinned (OpenSpec.ofChange fnShorterSpec)

/-- ITS FALSE NEIGHBOUR: 'it returns false'. Refute it at one input. -/
def fnShorterWrong : ChangeSpec := { name := "fnShorter", vars := ["loop.example/pub-g03153/pub/pkcs12.zzRounds512"], fn := fun _ => fun
  | [d1, d2, d3, d4, d5, d6, g1] => { results := [.lit (.bool false)], args := [d1, d2, d3, d4, d5, d6], vars := [g1] }
  | _ => none }
def FnShorterWrongFalsely : Prop := fnShorterRow.holds Tryd.pinned (OpenSpec.ofChange fnShorterWrong)

/-- 'laws.FnMac': WHATEVER THE INPUT: true; the input reads as it did. -/
def fnMacSpec : ChangeSpec := { name := "fnMac", vars := ["loop.example/pub-g03153/pub/pkcs12.zzRounds512"], fn := fun _ => fun
  | [d1, d2, d3, d4, d5, g1] => { results := [.lit (.bool true)], args := [d1, d2, d3, d4, d5], vars := [g1] }
  | _ => none }
def fnMacRow : OpenClaim := { program := "ytlnifplomlnoiaadoor", sum := "30d515c11d8fa84520dc133a557fe0a22bb9828e6c0dc6698cddeb75adea51af", func := "loop.example/pub-g03153/laws.FnMac", spec := "fnMac", inPlace := ["internal/bytealg.MakeNoZero"], unfollowed := true, recurses := true, named := ["encoding/binary.BigEndian", "loop.example/pub-g03153/pub/pkcs12.zzRounds512"], apart := false, laid := [("loop.example/pub-g03153/pub/pkcs12.zzRounds512", laid_loop_example_pub_g03153_pub_pkcs12_zzRounds512)] }
def FnMacSaid : Prop := fnMacRow.holds Tryd.pinned (OpenSpec.ofChange fnMacSpec)

/-- ITS FALSE NEIGHBOUR: 'it returns false'. Refute it at one input. -/
def fnMacWrong : ChangeSpec := { name := "fnMac", vars := ["loop.example/pub-g03153/pub/pkcs12.zzRounds512"], fn := fun _ => fun
  | [d1, d2, d3, d4, d5, g1] => { results := [.lit (.bool false)], args := [d1, d2, d3, d4, d5], vars := [g1] }
  | _ => none }
def FnMacWrongFalsely : Prop := fnMacRow.holds Tryd.pinned (OpenSpec.ofChange fnMacWrong)

/-- 'laws.FnVerify': WHATEVER THE INPUT: true; the input reads as it did. -/
def fnVerifySpec : ChangeSpec := { name := "fnVerify", vars := ["loop.example/pub-g03153/pub/pkcs12.ErrIncorrectPassword", "loop.example/pub-g03153/pub/pkcs12.zzRounds512"], fn := fun _ => fun
  | [d1, d2, d3, d4, d5, d6, d7, g1, g2] => { results := [.lit (.bool true)], args := [d1, d2, d3, d4, d5, d6, d7], vars := [g1, g2] }
  | _ => none }
def fnVerifyRow : OpenClaim := { program := "ytlnifplomlnoiaadoor", sum := "30d515c11d8fa84520dc133a557fe0a22bb9828e6c0dc6698cddeb75adea51af", func := "loop.example/pub-g03153/laws.FnVerify", spec := "fnVerify", inPlace := ["internal/bytealg.MakeNoZero"], unfollowed := true, recurses := true, named := ["loop.example/pub-g03153/pub/pkcs12.ErrIncorrectPassword", "encoding/binary.BigEndian", "loop.example/pub-g03153/pub/pkcs12.zzRounds512"], ifaces := true, apart := false, laid := [("loop.example/pub-g03153/pub/pkcs12.ErrIncorrectPassword", laid_loop_example_pub_g03153_pub_pkcs12_ErrIncorrectPassword), ("loop.example/pub-g03153/pub/pkcs12.zzRounds512", laid_loop_example_pub_g03153_pub_pkcs12_zzRounds512)] }
def FnVerifySaid : Prop := fnVerifyRow.holds Tryd.pinned (OpenSpec.ofChange fnVerifySpec)

/-- ITS FALSE NEIGHBOUR: 'it returns false'. Refute it at one input. -/
def fnVerifyWrong : ChangeSpec := { name := "fnVerify", vars := ["loop.example/pub-g03153/pub/pkcs12.ErrIncorrectPassword", "loop.example/pub-g03153/pub/pkcs12.zzRounds512"], fn := fun _ => fun
  | [d1, d2, d3, d4, d5, d6, d7, g1, g2] => { results := [.lit (.bool false)], args := [d1, d2, d3, d4, d5, d6, d7], vars := [g1, g2] }
  | _ => none }
def FnVerifyWrongFalsely : Prop := fnVerifyRow.holds Tryd.pinned (OpenSpec.ofChange fnVerifyWrong)

/-- 'laws.FnDecrypt': WHATEVER THE INPUT: true; the input reads as it did. -/
def fnDecryptSpec : ChangeSpec := { name := "fnDecrypt", vars := ["loop.example/pub-g03153/pub/pkcs12.ErrDecryption"], fn := fun _ => fun
  | [d1, d2, d3, d4, d5, g1] => { results := [.lit (.bool true)], args := [d1, d2, d3, d4, d5], vars := [g1] }
  | _ => none }
def fnDecryptRow : OpenClaim := { program := "ytlnifplomlnoiaadoor", sum := "30d515c11d8fa84520dc133a557fe0a22bb9828e6c0dc6698cddeb75adea51af", func := "loop.example/pub-g03153/laws.FnDecrypt", spec := "fnDecrypt", inPlace := ["internal/bytealg.MakeNoZero", "internal/bytealg.Compare"], unfollowed := true, recurses := true, named := ["loop.example/pub-g03153/pub/pkcs12.ErrDecryption"], ifaces := true, apart := false, laid := [("loop.example/pub-g03153/pub/pkcs12.ErrDecryption", laid_loop_example_pub_g03153_pub_pkcs12_ErrDecryption)] }
def FnDecryptSaid : Prop := fnDecryptRow.holds Tryd.pinned (OpenSpec.ofChange fnDecryptSpec)

/-- ITS FALSE NEIGHBOUR: 'it returns false'. Refute it at one input. -/
def fnDecryptWrong : ChangeSpec := { name := "fnDecrypt", vars := ["loop.example/pub-g03153/pub/pkcs12.ErrDecryption"], fn := fun _ => fun
  | [d1, d2, d3, d4, d5, g1] => { results := [.lit (.bool false)], args := [d1, d2, d3, d4, d5], vars := [g1] }
  | _ => none }
def FnDecryptWrongFalsely : Prop := fnDecryptRow.holds Tryd.pinned (OpenSpec.ofChange fnDecryptWrong)

/-- 'laws.FnPadding': WHATEVER THE INPUT: true; the input reads as it did. -/
def fnPaddingSpec : ChangeSpec := { name := "fnPadding", vars := ["loop.example/pub-g03153/pub/pkcs12.ErrDecryption"], fn := fun _ => fun
  | [d1, d2, d3, d4, d5, d6, g1] => { results := [.lit (.bool true)], args := [d1, d2, d3, d4, d5, d6], vars := [g1] }
  | _ => none }
def fnPaddingRow : OpenClaim := { program := "ytlnifplomlnoiaadoor", sum := "30d515c11d8fa84520dc133a557fe0a22bb9828e6c0dc6698cddeb75adea51af", func := "loop.example/pub-g03153/laws.FnPadding", spec := "fnPadding", inPlace := ["internal/bytealg.MakeNoZero", "internal/bytealg.Compare"], unfollowed := true, recurses := true, named := ["loop.example/pub-g03153/pub/pkcs12.ErrDecryption"], ifaces := true, apart := false, laid := [("loop.example/pub-g03153/pub/pkcs12.ErrDecryption", laid_loop_example_pub_g03153_pub_pkcs12_ErrDecryption)] }
def FnPaddingSaid : Prop := fnPaddingRow.holds Tryd.pinned (OpenSpec.ofChange fnPaddingSpec)

/-- ITS FALSE NEIGHBOUR: 'it returns false'. Refute it at one input. -/
def fnPaddingWrong : ChangeSpec := { name := "fnPadding", vars := ["loop.example/pub-g03153/pub/pkcs12.ErrDecryption"], fn := fun _ => fun
  | [d1, d2, d3, d4, d5, d6, g1] => { results := [.lit (.bool false)], args := [d1, d2, d3, d4, d5, d6], vars := [g1] }
  | _ => none }
def FnPaddingWrongFalsely : Prop := fnPaddingRow.holds Tryd.pinned (OpenSpec.ofChange fnPaddingWrong)

/- THE SECOND FORM. 'bulk': how many values and letters a reading holds, each counted each time it is reached (what is shared counts as often as it is met; a slice's spare places count too). A statement '..UptoSaid' is the law's where the arguments, and the package variables that the reading takes, are together of bulk at most 1048576: NARROWER than '..Said'. Prove '..Said' where nothing that the law and all that it calls make is longer than what came in: it says more and counts as full. Else prove '..UptoSaid'. A law counts once. -/
mutual
def uptoBulk {H : Type} : DataW H → Nat
  | .lit (.string bytes) => bytes.length + 1
  | .lit _ => 1
  | .nil => 1
  | .ptr d => uptoBulk d + 1
  | .slice elems spare => uptoBulkAll elems + uptoBulkAll spare + 1
  | .agg parts => uptoBulkAll parts + 1
  | .iface _ d => uptoBulk d + 1
  | .map entries => uptoBulkEntries entries + 1
  | .held _ => 1
def uptoBulkAll {H : Type} : List (DataW H) → Nat
  | [] => 0
  | d :: r => uptoBulk d + uptoBulkAll r
def uptoBulkEntries {H : Type} : List (Lit × DataW H) → Nat
  | [] => 0
  | x :: r => uptoBulkEntry x + uptoBulkEntries r
def uptoBulkEntry {H : Type} : Lit × DataW H → Nat
  | (.string bytes, d) => bytes.length + uptoBulk d + 1
  | (_, d) => uptoBulk d + 1
 end
def uptoSmall : (H : Type) → List (DataW H) → Bool := fun _ ds => decide (uptoBulkAll ds ≤ 1048576)
def OpenSpec.upto (s : _root_.Go.ChangeSpec) : _root_.Go.OpenSpec := { _root_.Go.OpenSpec.ofChange s with cond := some uptoSmall }

/-- 'laws.FnBlockBack', WHERE WHAT IT READS IS OF BULK AT MOST 1048576: true; the input reads as it did. -/
def fnBlockBackUptoRow : OpenClaim := { program := "ytlnifplomlnoiaadoor", sum := "30d515c11d8fa84520dc133a557fe0a22bb9828e6c0dc6698cddeb75adea51af", func := "loop.example/pub-g03153/laws.FnBlockBack", spec := "fnBlockBack", unfollowed := true, recurses := true, named := ["loop.example/pub-g03153/pub/rc2.piTable"], apart := false, laid := [("loop.example/pub-g03153/pub/rc2.piTable", laid_loop_example_pub_g03153_pub_rc2_piTable)], narrowed := true }
def FnBlockBackUptoSaid : Prop := fnBlockBackUptoRow.holds Tryd.pinned (OpenSpec.upto fnBlockBackSpec)

/-- 'laws.FnDecryptBlock', WHERE WHAT IT READS IS OF BULK AT MOST 1048576: true; the input reads as it did. -/
def fnDecryptBlockUptoRow : OpenClaim := { program := "ytlnifplomlnoiaadoor", sum := "30d515c11d8fa84520dc133a557fe0a22bb9828e6c0dc6698cddeb75adea51af", func := "loop.example/pub-g03153/laws.FnDecryptBlock", spec := "fnDecryptBlock", unfollowed := true, recurses := true, named := ["loop.example/pub-g03153/pub/rc2.piTable"], apart := false, laid := [("loop.example/pub-g03153/pub/rc2.piTable", laid_loop_example_pub_g03153_pub_rc2_piTable)], narrowed := true }
def FnDecryptBlockUptoSaid : Prop := fnDecryptBlockUptoRow.holds Tryd.pinned (OpenSpec.upto fnDecryptBlockSpec)

/-- 'laws.FnEncryptBlock', WHERE WHAT IT READS IS OF BULK AT MOST 1048576: true; the input reads as it did. -/
def fnEncryptBlockUptoRow : OpenClaim := { program := "ytlnifplomlnoiaadoor", sum := "30d515c11d8fa84520dc133a557fe0a22bb9828e6c0dc6698cddeb75adea51af", func := "loop.example/pub-g03153/laws.FnEncryptBlock", spec := "fnEncryptBlock", unfollowed := true, recurses := true, named := ["loop.example/pub-g03153/pub/rc2.piTable"], apart := false, laid := [("loop.example/pub-g03153/pub/rc2.piTable", laid_loop_example_pub_g03153_pub_rc2_piTable)], narrowed := true }
def FnEncryptBlockUptoSaid : Prop := fnEncryptBlockUptoRow.holds Tryd.pinned (OpenSpec.upto fnEncryptBlockSpec)

/-- 'laws.FnDerive', WHERE WHAT IT READS IS OF BULK AT MOST 1048576: true; the input reads as it did. -/
def fnDeriveUptoRow : OpenClaim := { program := "ytlnifplomlnoiaadoor", sum := "30d515c11d8fa84520dc133a557fe0a22bb9828e6c0dc6698cddeb75adea51af", func := "loop.example/pub-g03153/laws.FnDerive", spec := "fnDerive", inPlace := ["internal/bytealg.MakeNoZero"], unfollowed := true, recurses := true, named := ["encoding/binary.BigEndian", "loop.example/pub-g03153/pub/pkcs12.zzRounds512"], apart := false, laid := [("loop.example/pub-g03153/pub/pkcs12.zzRounds512", laid_loop_example_pub_g03153_pub_pkcs12_zzRounds512)], narrowed := true }
def FnDeriveUptoSaid : Prop := fnDeriveUptoRow.holds Tryd.pinned (OpenSpec.upto fnDeriveSpec)

/-- 'laws.FnShorter', WHERE WHAT IT READS IS OF BULK AT MOST 1048576: true; the input reads as it did. -/
def fnShorterUptoRow : OpenClaim := { program := "ytlnifplomlnoiaadoor", sum := "30d515c11d8fa84520dc133a557fe0a22bb9828e6c0dc6698cddeb75adea51af", func := "loop.example/pub-g03153/laws.FnShorter", spec := "fnShorter", inPlace := ["internal/bytealg.MakeNoZero"], unfollowed := true, recurses := true, named := ["encoding/binary.BigEndian", "loop.example/pub-g03153/pub/pkcs12.zzRounds512"], apart := false, laid := [("loop.example/pub-g03153/pub/pkcs12.zzRounds512", laid_loop_example_pub_g03153_pub_pkcs12_zzRounds512)], narrowed := true }
def FnShorterUptoSaid : Prop := fnShorterUptoRow.holds Tryd.pinned (OpenSpec.upto fnShorterSpec)

/-- 'laws.FnMac', WHERE WHAT IT READS IS OF BULK AT MOST 1048576: true; the input reads as it did. -/
def fnMacUptoRow : OpenClaim := { program := "ytlnifplomlnoiaadoor", sum := "30d515c11d8fa84520dc133a557fe0a22bb9828e6c0dc6698cddeb75adea51af", func := "loop.example/pub-g03153/laws.FnMac", spec := "fnMac", inPlace := ["internal/bytealg.MakeNoZero"], unfollowed := true, recurses := true, named := ["encoding/binary.BigEndian", "loop.example/pub-g03153/pub/pkcs12.zzRounds512"], apart := false, laid := [("loop.example/pub-g03153/pub/pkcs12.zzRounds512", laid_loop_example_pub_g03153_pub_pkcs12_zzRounds512)], narrowed := true }
def FnMacUptoSaid : Prop := fnMacUptoRow.holds Tryd.pinned (OpenSpec.upto fnMacSpec)

/-- 'laws.FnVerify', WHERE WHAT IT READS IS OF BULK AT MOST 1048576: true; the input reads as it did. -/
def fnVerifyUptoRow : OpenClaim := { program := "ytlnifplomlnoiaadoor", sum := "30d515c11d8fa84520dc133a557fe0a22bb9828e6c0dc6698cddeb75adea51af", func := "loop.example/pub-g03153/laws.FnVerify", spec := "fnVerify", inPlace := ["internal/bytealg.MakeNoZero"], unfollowed := true, recurses := true, named := ["loop.example/pub-g03153/pub/pkcs12.ErrIncorrectPassword", "encoding/binary.BigEndian", "loop.example/pub-g03153/pub/pkcs12.zzRounds512"], ifaces := true, apart := false, laid := [("loop.example/pub-g03153/pub/pkcs12.ErrIncorrectPassword", laid_loop_example_pub_g03153_pub_pkcs12_ErrIncorrectPassword), ("loop.example/pub-g03153/pub/pkcs12.zzRounds512", laid_loop_example_pub_g03153_pub_pkcs12_zzRounds512)], narrowed := true }
def FnVerifyUptoSaid : Prop := fnVerifyUptoRow.holds Tryd.pinned (OpenSpec.upto fnVerifySpec)

/-- 'laws.FnDecrypt', WHERE WHAT IT READS IS OF BULK AT MOST 1048576: true; the input reads as it did. -/
def fnDecryptUptoRow : OpenClaim := { program := "ytlnifplomlnoiaadoor", sum := "30d515c11d8fa84520dc133a557fe0a22bb9828e6c0dc6698cddeb75adea51af", func := "loop.example/pub-g03153/laws.FnDecrypt", spec := "fnDecrypt", inPlace := ["internal/bytealg.MakeNoZero", "internal/bytealg.Compare"], unfollowed := true, recurses := true, named := ["loop.example/pub-g03153/pub/pkcs12.ErrDecryption"], ifaces := true, apart := false, laid := [("loop.example/pub-g03153/pub/pkcs12.ErrDecryption", laid_loop_example_pub_g03153_pub_pkcs12_ErrDecryption)], narrowed := true }
def FnDecryptUptoSaid : Prop := fnDecryptUptoRow.holds Tryd.pinned (OpenSpec.upto fnDecryptSpec)

/-- 'laws.FnPadding', WHERE WHAT IT READS IS OF BULK AT MOST 1048576: true; the input reads as it did. -/
def fnPaddingUptoRow : OpenClaim := { program := "ytlnifplomlnoiaadoor", sum := "30d515c11d8fa84520dc133a557fe0a22bb9828e6c0dc6698cddeb75adea51af", func := "loop.example/pub-g03153/laws.FnPadding", spec := "fnPadding", inPlace := ["internal/bytealg.MakeNoZero", "internal/bytealg.Compare"], unfollowed := true, recurses := true, named := ["loop.example/pub-g03153/pub/pkcs12.ErrDecryption"], ifaces := true, apart := false, laid := [("loop.example/pub-g03153/pub/pkcs12.ErrDecryption", laid_loop_example_pub_g03153_pub_pkcs12_ErrDecryption)], narrowed := true }
def FnPaddingUptoSaid : Prop := fnPaddingUptoRow.holds Tryd.pinned (OpenSpec.upto fnPaddingSpec)

end Rows
end Go.Proofs.YtlnifplomlnoiaaDoor
