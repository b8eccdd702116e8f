/-
  NARROWER THAN 'FOR EVERY INPUT', by the rows' own cells (each row's printed sentence says how): FnBackward: loops, laid · FnBlock: loops, laid · FnCases: loops, laid · FnDefault: loops, laid · FnEnds: loops, laid · FnForward: loops, laid · FnIf: loops, laid · FnInBlock: loops, laid · FnIntoBlock: loops, laid · FnJumps: loops, laid · FnLast: loops, laid · FnLeft: loops, laid · FnLiteral: loops, laid · FnLoop: loops, laid · FnRenamed: loops, laid · FnTurned: loops, laid · FnTwice: loops, laid · FnUnused: loops, laid.
  DERIVED. THE GIVEN ROWS OF THIS SEAT. 18 by the template 'for every input the law returns true; each argument reads behind the call as it read before'; 0 by the template 'total and deterministic' (their statements: YtpodifbgfcclbaaGreatDoorTotals.lean).
  GIVEN WITH THE SEED: the statements are not yours to turn. If you find one false, say at which input.
  Laid BY PROGRAM, IN A SANDBOX (cutbox-rows.mjs): the forced cells as the released guide's own fill.sh prints them over the translation 2b3f0b288dde1252… (all of the seat's roots in one cut). By AI agents, Wed Nov 11 2026. No macro, syntax, notation, axiom, sorry.
-/
import Derived.Test.YtpodifbgfcclbaaGreatDoorChecked
import GoSem.Claim
import GoSem.ClaimJoined
import GoSem.ClaimMapViews
import Derived.JoinedTies
import Derived.KernelRfl
namespace Go.Proofs.YtpodifbgfcclbaaGreatDoor
/- THE CELL 'sum', in the pinned program and in every row, IS THE sha256 OF THE DUMP (.gsa) THAT YtpodifbgfcclbaaGreatDoorProg.lean LOADS. Nothing in Lean hashes anything: it is a label: what it is worth is what the hold of that sum in a sandbox is worth. -/
noncomputable def Tryz.pinned : Pinned := { name := "ytpodifbgfcclbaagreatdoor", sum := "2b3f0b288dde12526d2dc840f24501d97a587e821c1a3c0c7386fd2cca4e82e2", checked := Tryz.checked }
namespace Rows
def none {H : Type} : Left H := { results := [], args := [] }

/- WHAT THE LISTED PACKAGE-LEVEL VARIABLES READ AS WHEN THE CALL BEGINS. Each datum BY PROGRAM (the guide's laid-datum.mjs) off the statement by which the dump's own 'gosem.cut.vars' lays the variable. In a bare row this is a premise. The card (YtpodifbgfcclbaaGreatDoorCards.lean) ties it to the program's text. -/
def laid_math_bits_deBruijn32tab {H : Type} : DataW H := .agg [.lit (.int .u8 0), .lit (.int .u8 1), .lit (.int .u8 28), .lit (.int .u8 2), .lit (.int .u8 29), .lit (.int .u8 14), .lit (.int .u8 24), .lit (.int .u8 3), .lit (.int .u8 30), .lit (.int .u8 22), .lit (.int .u8 20), .lit (.int .u8 15), .lit (.int .u8 25), .lit (.int .u8 17), .lit (.int .u8 4), .lit (.int .u8 8), .lit (.int .u8 31), .lit (.int .u8 27), .lit (.int .u8 13), .lit (.int .u8 23), .lit (.int .u8 21), .lit (.int .u8 19), .lit (.int .u8 16), .lit (.int .u8 7), .lit (.int .u8 26), .lit (.int .u8 12), .lit (.int .u8 18), .lit (.int .u8 6), .lit (.int .u8 11), .lit (.int .u8 5), .lit (.int .u8 10), .lit (.int .u8 9)]
def laid_math_bits_deBruijn64tab {H : Type} : DataW H := .agg [.lit (.int .u8 0), .lit (.int .u8 1), .lit (.int .u8 56), .lit (.int .u8 2), .lit (.int .u8 57), .lit (.int .u8 49), .lit (.int .u8 28), .lit (.int .u8 3), .lit (.int .u8 61), .lit (.int .u8 58), .lit (.int .u8 42), .lit (.int .u8 50), .lit (.int .u8 38), .lit (.int .u8 29), .lit (.int .u8 17), .lit (.int .u8 4), .lit (.int .u8 62), .lit (.int .u8 47), .lit (.int .u8 59), .lit (.int .u8 36), .lit (.int .u8 45), .lit (.int .u8 43), .lit (.int .u8 51), .lit (.int .u8 22), .lit (.int .u8 53), .lit (.int .u8 39), .lit (.int .u8 33), .lit (.int .u8 30), .lit (.int .u8 24), .lit (.int .u8 18), .lit (.int .u8 12), .lit (.int .u8 5), .lit (.int .u8 63), .lit (.int .u8 55), .lit (.int .u8 48), .lit (.int .u8 27), .lit (.int .u8 60), .lit (.int .u8 41), .lit (.int .u8 37), .lit (.int .u8 16), .lit (.int .u8 46), .lit (.int .u8 35), .lit (.int .u8 44), .lit (.int .u8 21), .lit (.int .u8 52), .lit (.int .u8 32), .lit (.int .u8 23), .lit (.int .u8 11), .lit (.int .u8 54), .lit (.int .u8 26), .lit (.int .u8 40), .lit (.int .u8 15), .lit (.int .u8 34), .lit (.int .u8 20), .lit (.int .u8 31), .lit (.int .u8 10), .lit (.int .u8 25), .lit (.int .u8 14), .lit (.int .u8 19), .lit (.int .u8 9), .lit (.int .u8 13), .lit (.int .u8 8), .lit (.int .u8 7), .lit (.int .u8 6)]
def laid_internal_strconv_uint64pow10 {H : Type} : DataW H := .agg [.lit (.int .u64 1), .lit (.int .u64 10), .lit (.int .u64 100), .lit (.int .u64 1000), .lit (.int .u64 10000), .lit (.int .u64 100000), .lit (.int .u64 1000000), .lit (.int .u64 10000000), .lit (.int .u64 100000000), .lit (.int .u64 1000000000), .lit (.int .u64 10000000000), .lit (.int .u64 100000000000), .lit (.int .u64 1000000000000), .lit (.int .u64 10000000000000), .lit (.int .u64 100000000000000), .lit (.int .u64 1000000000000000), .lit (.int .u64 10000000000000000), .lit (.int .u64 100000000000000000), .lit (.int .u64 1000000000000000000), .lit (.int .u64 10000000000000000000)]

/-- 'laws.FnBackward': WHATEVER THE INPUT: true; the input reads as it did. -/
def fnBackwardSpec : ChangeSpec := { name := "fnBackward", fn := fun _ => fun
  | [d1, d2] => { results := [.lit (.bool true)], args := [d1, d2] }
  | _ => none }
def fnBackwardRow : OpenClaim := { program := "ytpodifbgfcclbaagreatdoor", sum := "2b3f0b288dde12526d2dc840f24501d97a587e821c1a3c0c7386fd2cca4e82e2", func := "fieldgate/laws.FnBackward", spec := "fnBackward", unfollowed := true, recurses := true, named := ["internal/strconv.uint64pow10", "math/bits.deBruijn32tab", "math/bits.deBruijn64tab"], loops := true, plainKeys := false, apart := false, laid := [("math/bits.deBruijn32tab", laid_math_bits_deBruijn32tab), ("math/bits.deBruijn64tab", laid_math_bits_deBruijn64tab), ("internal/strconv.uint64pow10", laid_internal_strconv_uint64pow10)] }
def FnBackwardSaid : Prop := fnBackwardRow.holds Tryz.pinned (OpenSpec.ofChange fnBackwardSpec)

/-- ITS FALSE NEIGHBOUR: 'it returns false'. Refute it at one input. -/
def fnBackwardWrong : ChangeSpec := { name := "fnBackward", fn := fun _ => fun
  | [d1, d2] => { results := [.lit (.bool false)], args := [d1, d2] }
  | _ => none }
def FnBackwardWrongFalsely : Prop := fnBackwardRow.holds Tryz.pinned (OpenSpec.ofChange fnBackwardWrong)

/-- 'laws.FnBlock': WHATEVER THE INPUT: true; the input reads as it did. -/
def fnBlockSpec : ChangeSpec := { name := "fnBlock", fn := fun _ => fun
  | [d] => { results := [.lit (.bool true)], args := [d] }
  | _ => none }
def fnBlockRow : OpenClaim := { program := "ytpodifbgfcclbaagreatdoor", sum := "2b3f0b288dde12526d2dc840f24501d97a587e821c1a3c0c7386fd2cca4e82e2", func := "fieldgate/laws.FnBlock", spec := "fnBlock", unfollowed := true, recurses := true, named := ["internal/strconv.uint64pow10", "math/bits.deBruijn32tab", "math/bits.deBruijn64tab"], loops := true, plainKeys := false, apart := false, laid := [("math/bits.deBruijn32tab", laid_math_bits_deBruijn32tab), ("math/bits.deBruijn64tab", laid_math_bits_deBruijn64tab), ("internal/strconv.uint64pow10", laid_internal_strconv_uint64pow10)] }
def FnBlockSaid : Prop := fnBlockRow.holds Tryz.pinned (OpenSpec.ofChange fnBlockSpec)

/-- ITS FALSE NEIGHBOUR: 'it returns false'. Refute it at one input. -/
def fnBlockWrong : ChangeSpec := { name := "fnBlock", fn := fun _ => fun
  | [d] => { results := [.lit (.bool false)], args := [d] }
  | _ => none }
def FnBlockWrongFalsely : Prop := fnBlockRow.holds Tryz.pinned (OpenSpec.ofChange fnBlockWrong)

/-- 'laws.FnCases': WHATEVER THE INPUT: true; the input reads as it did. -/
def fnCasesSpec : ChangeSpec := { name := "fnCases", fn := fun _ => fun
  | [d1, d2, d3, d4] => { results := [.lit (.bool true)], args := [d1, d2, d3, d4] }
  | _ => none }
def fnCasesRow : OpenClaim := { program := "ytpodifbgfcclbaagreatdoor", sum := "2b3f0b288dde12526d2dc840f24501d97a587e821c1a3c0c7386fd2cca4e82e2", func := "fieldgate/laws.FnCases", spec := "fnCases", unfollowed := true, recurses := true, named := ["internal/strconv.uint64pow10", "math/bits.deBruijn32tab", "math/bits.deBruijn64tab"], loops := true, plainKeys := false, apart := false, laid := [("math/bits.deBruijn32tab", laid_math_bits_deBruijn32tab), ("math/bits.deBruijn64tab", laid_math_bits_deBruijn64tab), ("internal/strconv.uint64pow10", laid_internal_strconv_uint64pow10)] }
def FnCasesSaid : Prop := fnCasesRow.holds Tryz.pinned (OpenSpec.ofChange fnCasesSpec)

/-- ITS FALSE NEIGHBOUR: 'it returns false'. Refute it at one input. -/
def fnCasesWrong : ChangeSpec := { name := "fnCases", fn := fun _ => fun
  | [d1, d2, d3, d4] => { results := [.lit (.bool false)], args := [d1, d2, d3, d4] }
  | _ => none }
def FnCasesWrongFalsely : Prop := fnCasesRow.holds Tryz.pinned (OpenSpec.ofChange fnCasesWrong)

/-- 'laws.FnDefault': WHATEVER THE INPUT: true; the input reads as it did. -/
def fnDefaultSpec : ChangeSpec := { name := "fnDefault", fn := fun _ => fun
  | [d1, d2, d3] => { results := [.lit (.bool true)], args := [d1, d2, d3] }
  | _ => none }
def fnDefaultRow : OpenClaim := { program := "ytpodifbgfcclbaagreatdoor", sum := "2b3f0b288dde12526d2dc840f24501d97a587e821c1a3c0c7386fd2cca4e82e2", func := "fieldgate/laws.FnDefault", spec := "fnDefault", unfollowed := true, recurses := true, named := ["internal/strconv.uint64pow10", "math/bits.deBruijn32tab", "math/bits.deBruijn64tab"], loops := true, plainKeys := false, apart := false, laid := [("math/bits.deBruijn32tab", laid_math_bits_deBruijn32tab), ("math/bits.deBruijn64tab", laid_math_bits_deBruijn64tab), ("internal/strconv.uint64pow10", laid_internal_strconv_uint64pow10)] }
def FnDefaultSaid : Prop := fnDefaultRow.holds Tryz.pinned (OpenSpec.ofChange fnDefaultSpec)

/-- ITS FALSE NEIGHBOUR: 'it returns false'. Refute it at one input. -/
def fnDefaultWrong : ChangeSpec := { name := "fnDefault", fn := fun _ => fun
  | [d1, d2, d3] => { results := [.lit (.bool false)], args := [d1, d2, d3] }
  | _ => none }
def FnDefaultWrongFalsely : Prop := fnDefaultRow.holds Tryz.pinned (OpenSpec.ofChange fnDefaultWrong)

/-- 'laws.FnEnds': WHATEVER THE INPUT: true; the input reads as it did. -/
def fnEndsSpec : ChangeSpec := { name := "fnEnds", fn := fun _ => fun
  | [d] => { results := [.lit (.bool true)], args := [d] }
  | _ => none }
def fnEndsRow : OpenClaim := { program := "ytpodifbgfcclbaagreatdoor", sum := "2b3f0b288dde12526d2dc840f24501d97a587e821c1a3c0c7386fd2cca4e82e2", func := "fieldgate/laws.FnEnds", spec := "fnEnds", unfollowed := true, recurses := true, named := ["internal/strconv.uint64pow10", "math/bits.deBruijn32tab", "math/bits.deBruijn64tab"], loops := true, plainKeys := false, apart := false, laid := [("math/bits.deBruijn32tab", laid_math_bits_deBruijn32tab), ("math/bits.deBruijn64tab", laid_math_bits_deBruijn64tab), ("internal/strconv.uint64pow10", laid_internal_strconv_uint64pow10)] }
def FnEndsSaid : Prop := fnEndsRow.holds Tryz.pinned (OpenSpec.ofChange fnEndsSpec)

/-- ITS FALSE NEIGHBOUR: 'it returns false'. Refute it at one input. -/
def fnEndsWrong : ChangeSpec := { name := "fnEnds", fn := fun _ => fun
  | [d] => { results := [.lit (.bool false)], args := [d] }
  | _ => none }
def FnEndsWrongFalsely : Prop := fnEndsRow.holds Tryz.pinned (OpenSpec.ofChange fnEndsWrong)

/-- 'laws.FnForward': WHATEVER THE INPUT: true; the input reads as it did. -/
def fnForwardSpec : ChangeSpec := { name := "fnForward", fn := fun _ => fun
  | [d1, d2] => { results := [.lit (.bool true)], args := [d1, d2] }
  | _ => none }
def fnForwardRow : OpenClaim := { program := "ytpodifbgfcclbaagreatdoor", sum := "2b3f0b288dde12526d2dc840f24501d97a587e821c1a3c0c7386fd2cca4e82e2", func := "fieldgate/laws.FnForward", spec := "fnForward", unfollowed := true, recurses := true, named := ["internal/strconv.uint64pow10", "math/bits.deBruijn32tab", "math/bits.deBruijn64tab"], loops := true, plainKeys := false, apart := false, laid := [("math/bits.deBruijn32tab", laid_math_bits_deBruijn32tab), ("math/bits.deBruijn64tab", laid_math_bits_deBruijn64tab), ("internal/strconv.uint64pow10", laid_internal_strconv_uint64pow10)] }
def FnForwardSaid : Prop := fnForwardRow.holds Tryz.pinned (OpenSpec.ofChange fnForwardSpec)

/-- ITS FALSE NEIGHBOUR: 'it returns false'. Refute it at one input. -/
def fnForwardWrong : ChangeSpec := { name := "fnForward", fn := fun _ => fun
  | [d1, d2] => { results := [.lit (.bool false)], args := [d1, d2] }
  | _ => none }
def FnForwardWrongFalsely : Prop := fnForwardRow.holds Tryz.pinned (OpenSpec.ofChange fnForwardWrong)

/-- 'laws.FnIf': WHATEVER THE INPUT: true; the input reads as it did. -/
def fnIfSpec : ChangeSpec := { name := "fnIf", fn := fun _ => fun
  | [d1, d2, d3] => { results := [.lit (.bool true)], args := [d1, d2, d3] }
  | _ => none }
def fnIfRow : OpenClaim := { program := "ytpodifbgfcclbaagreatdoor", sum := "2b3f0b288dde12526d2dc840f24501d97a587e821c1a3c0c7386fd2cca4e82e2", func := "fieldgate/laws.FnIf", spec := "fnIf", unfollowed := true, recurses := true, named := ["internal/strconv.uint64pow10", "math/bits.deBruijn32tab", "math/bits.deBruijn64tab"], loops := true, plainKeys := false, apart := false, laid := [("math/bits.deBruijn32tab", laid_math_bits_deBruijn32tab), ("math/bits.deBruijn64tab", laid_math_bits_deBruijn64tab), ("internal/strconv.uint64pow10", laid_internal_strconv_uint64pow10)] }
def FnIfSaid : Prop := fnIfRow.holds Tryz.pinned (OpenSpec.ofChange fnIfSpec)

/-- ITS FALSE NEIGHBOUR: 'it returns false'. Refute it at one input. -/
def fnIfWrong : ChangeSpec := { name := "fnIf", fn := fun _ => fun
  | [d1, d2, d3] => { results := [.lit (.bool false)], args := [d1, d2, d3] }
  | _ => none }
def FnIfWrongFalsely : Prop := fnIfRow.holds Tryz.pinned (OpenSpec.ofChange fnIfWrong)

/-- 'laws.FnInBlock': WHATEVER THE INPUT: true; the input reads as it did. -/
def fnInBlockSpec : ChangeSpec := { name := "fnInBlock", fn := fun _ => fun
  | [d] => { results := [.lit (.bool true)], args := [d] }
  | _ => none }
def fnInBlockRow : OpenClaim := { program := "ytpodifbgfcclbaagreatdoor", sum := "2b3f0b288dde12526d2dc840f24501d97a587e821c1a3c0c7386fd2cca4e82e2", func := "fieldgate/laws.FnInBlock", spec := "fnInBlock", unfollowed := true, recurses := true, named := ["internal/strconv.uint64pow10", "math/bits.deBruijn32tab", "math/bits.deBruijn64tab"], loops := true, plainKeys := false, apart := false, laid := [("math/bits.deBruijn32tab", laid_math_bits_deBruijn32tab), ("math/bits.deBruijn64tab", laid_math_bits_deBruijn64tab), ("internal/strconv.uint64pow10", laid_internal_strconv_uint64pow10)] }
def FnInBlockSaid : Prop := fnInBlockRow.holds Tryz.pinned (OpenSpec.ofChange fnInBlockSpec)

/-- ITS FALSE NEIGHBOUR: 'it returns false'. Refute it at one input. -/
def fnInBlockWrong : ChangeSpec := { name := "fnInBlock", fn := fun _ => fun
  | [d] => { results := [.lit (.bool false)], args := [d] }
  | _ => none }
def FnInBlockWrongFalsely : Prop := fnInBlockRow.holds Tryz.pinned (OpenSpec.ofChange fnInBlockWrong)

/-- 'laws.FnIntoBlock': WHATEVER THE INPUT: true; the input reads as it did. -/
def fnIntoBlockSpec : ChangeSpec := { name := "fnIntoBlock", fn := fun _ => fun
  | [d1, d2, d3, d4] => { results := [.lit (.bool true)], args := [d1, d2, d3, d4] }
  | _ => none }
def fnIntoBlockRow : OpenClaim := { program := "ytpodifbgfcclbaagreatdoor", sum := "2b3f0b288dde12526d2dc840f24501d97a587e821c1a3c0c7386fd2cca4e82e2", func := "fieldgate/laws.FnIntoBlock", spec := "fnIntoBlock", unfollowed := true, recurses := true, named := ["internal/strconv.uint64pow10", "math/bits.deBruijn32tab", "math/bits.deBruijn64tab"], loops := true, plainKeys := false, apart := false, laid := [("math/bits.deBruijn32tab", laid_math_bits_deBruijn32tab), ("math/bits.deBruijn64tab", laid_math_bits_deBruijn64tab), ("internal/strconv.uint64pow10", laid_internal_strconv_uint64pow10)] }
def FnIntoBlockSaid : Prop := fnIntoBlockRow.holds Tryz.pinned (OpenSpec.ofChange fnIntoBlockSpec)

/-- ITS FALSE NEIGHBOUR: 'it returns false'. Refute it at one input. -/
def fnIntoBlockWrong : ChangeSpec := { name := "fnIntoBlock", fn := fun _ => fun
  | [d1, d2, d3, d4] => { results := [.lit (.bool false)], args := [d1, d2, d3, d4] }
  | _ => none }
def FnIntoBlockWrongFalsely : Prop := fnIntoBlockRow.holds Tryz.pinned (OpenSpec.ofChange fnIntoBlockWrong)

/-- 'laws.FnJumps': WHATEVER THE INPUT: true; the input reads as it did. -/
def fnJumpsSpec : ChangeSpec := { name := "fnJumps", fn := fun _ => fun
  | [d] => { results := [.lit (.bool true)], args := [d] }
  | _ => none }
def fnJumpsRow : OpenClaim := { program := "ytpodifbgfcclbaagreatdoor", sum := "2b3f0b288dde12526d2dc840f24501d97a587e821c1a3c0c7386fd2cca4e82e2", func := "fieldgate/laws.FnJumps", spec := "fnJumps", unfollowed := true, recurses := true, named := ["internal/strconv.uint64pow10", "math/bits.deBruijn32tab", "math/bits.deBruijn64tab"], loops := true, plainKeys := false, apart := false, laid := [("math/bits.deBruijn32tab", laid_math_bits_deBruijn32tab), ("math/bits.deBruijn64tab", laid_math_bits_deBruijn64tab), ("internal/strconv.uint64pow10", laid_internal_strconv_uint64pow10)] }
def FnJumpsSaid : Prop := fnJumpsRow.holds Tryz.pinned (OpenSpec.ofChange fnJumpsSpec)

/-- ITS FALSE NEIGHBOUR: 'it returns false'. Refute it at one input. -/
def fnJumpsWrong : ChangeSpec := { name := "fnJumps", fn := fun _ => fun
  | [d] => { results := [.lit (.bool false)], args := [d] }
  | _ => none }
def FnJumpsWrongFalsely : Prop := fnJumpsRow.holds Tryz.pinned (OpenSpec.ofChange fnJumpsWrong)

/-- 'laws.FnLast': WHATEVER THE INPUT: true; the input reads as it did. -/
def fnLastSpec : ChangeSpec := { name := "fnLast", fn := fun _ => fun
  | [d1, d2, d3] => { results := [.lit (.bool true)], args := [d1, d2, d3] }
  | _ => none }
def fnLastRow : OpenClaim := { program := "ytpodifbgfcclbaagreatdoor", sum := "2b3f0b288dde12526d2dc840f24501d97a587e821c1a3c0c7386fd2cca4e82e2", func := "fieldgate/laws.FnLast", spec := "fnLast", unfollowed := true, recurses := true, named := ["internal/strconv.uint64pow10", "math/bits.deBruijn32tab", "math/bits.deBruijn64tab"], loops := true, plainKeys := false, apart := false, laid := [("math/bits.deBruijn32tab", laid_math_bits_deBruijn32tab), ("math/bits.deBruijn64tab", laid_math_bits_deBruijn64tab), ("internal/strconv.uint64pow10", laid_internal_strconv_uint64pow10)] }
def FnLastSaid : Prop := fnLastRow.holds Tryz.pinned (OpenSpec.ofChange fnLastSpec)

/-- ITS FALSE NEIGHBOUR: 'it returns false'. Refute it at one input. -/
def fnLastWrong : ChangeSpec := { name := "fnLast", fn := fun _ => fun
  | [d1, d2, d3] => { results := [.lit (.bool false)], args := [d1, d2, d3] }
  | _ => none }
def FnLastWrongFalsely : Prop := fnLastRow.holds Tryz.pinned (OpenSpec.ofChange fnLastWrong)

/-- 'laws.FnLeft': WHATEVER THE INPUT: true; the input reads as it did. -/
def fnLeftSpec : ChangeSpec := { name := "fnLeft", fn := fun _ => fun
  | [d1, d2, d3, d4] => { results := [.lit (.bool true)], args := [d1, d2, d3, d4] }
  | _ => none }
def fnLeftRow : OpenClaim := { program := "ytpodifbgfcclbaagreatdoor", sum := "2b3f0b288dde12526d2dc840f24501d97a587e821c1a3c0c7386fd2cca4e82e2", func := "fieldgate/laws.FnLeft", spec := "fnLeft", unfollowed := true, recurses := true, named := ["internal/strconv.uint64pow10", "math/bits.deBruijn32tab", "math/bits.deBruijn64tab"], loops := true, plainKeys := false, apart := false, laid := [("math/bits.deBruijn32tab", laid_math_bits_deBruijn32tab), ("math/bits.deBruijn64tab", laid_math_bits_deBruijn64tab), ("internal/strconv.uint64pow10", laid_internal_strconv_uint64pow10)] }
def FnLeftSaid : Prop := fnLeftRow.holds Tryz.pinned (OpenSpec.ofChange fnLeftSpec)

/-- ITS FALSE NEIGHBOUR: 'it returns false'. Refute it at one input. -/
def fnLeftWrong : ChangeSpec := { name := "fnLeft", fn := fun _ => fun
  | [d1, d2, d3, d4] => { results := [.lit (.bool false)], args := [d1, d2, d3, d4] }
  | _ => none }
def FnLeftWrongFalsely : Prop := fnLeftRow.holds Tryz.pinned (OpenSpec.ofChange fnLeftWrong)

/-- 'laws.FnLiteral': WHATEVER THE INPUT: true; the input reads as it did. -/
def fnLiteralSpec : ChangeSpec := { name := "fnLiteral", fn := fun _ => fun
  | [d1, d2, d3] => { results := [.lit (.bool true)], args := [d1, d2, d3] }
  | _ => none }
def fnLiteralRow : OpenClaim := { program := "ytpodifbgfcclbaagreatdoor", sum := "2b3f0b288dde12526d2dc840f24501d97a587e821c1a3c0c7386fd2cca4e82e2", func := "fieldgate/laws.FnLiteral", spec := "fnLiteral", unfollowed := true, recurses := true, named := ["internal/strconv.uint64pow10", "math/bits.deBruijn32tab", "math/bits.deBruijn64tab"], loops := true, plainKeys := false, apart := false, laid := [("math/bits.deBruijn32tab", laid_math_bits_deBruijn32tab), ("math/bits.deBruijn64tab", laid_math_bits_deBruijn64tab), ("internal/strconv.uint64pow10", laid_internal_strconv_uint64pow10)] }
def FnLiteralSaid : Prop := fnLiteralRow.holds Tryz.pinned (OpenSpec.ofChange fnLiteralSpec)

/-- ITS FALSE NEIGHBOUR: 'it returns false'. Refute it at one input. -/
def fnLiteralWrong : ChangeSpec := { name := "fnLiteral", fn := fun _ => fun
  | [d1, d2, d3] => { results := [.lit (.bool false)], args := [d1, d2, d3] }
  | _ => none }
def FnLiteralWrongFalsely : Prop := fnLiteralRow.holds Tryz.pinned (OpenSpec.ofChange fnLiteralWrong)

/-- 'laws.FnLoop': WHATEVER THE INPUT: true; the input reads as it did. -/
def fnLoopSpec : ChangeSpec := { name := "fnLoop", fn := fun _ => fun
  | [d1, d2, d3] => { results := [.lit (.bool true)], args := [d1, d2, d3] }
  | _ => none }
def fnLoopRow : OpenClaim := { program := "ytpodifbgfcclbaagreatdoor", sum := "2b3f0b288dde12526d2dc840f24501d97a587e821c1a3c0c7386fd2cca4e82e2", func := "fieldgate/laws.FnLoop", spec := "fnLoop", unfollowed := true, recurses := true, named := ["internal/strconv.uint64pow10", "math/bits.deBruijn32tab", "math/bits.deBruijn64tab"], loops := true, plainKeys := false, apart := false, laid := [("math/bits.deBruijn32tab", laid_math_bits_deBruijn32tab), ("math/bits.deBruijn64tab", laid_math_bits_deBruijn64tab), ("internal/strconv.uint64pow10", laid_internal_strconv_uint64pow10)] }
def FnLoopSaid : Prop := fnLoopRow.holds Tryz.pinned (OpenSpec.ofChange fnLoopSpec)

/-- ITS FALSE NEIGHBOUR: 'it returns false'. Refute it at one input. -/
def fnLoopWrong : ChangeSpec := { name := "fnLoop", fn := fun _ => fun
  | [d1, d2, d3] => { results := [.lit (.bool false)], args := [d1, d2, d3] }
  | _ => none }
def FnLoopWrongFalsely : Prop := fnLoopRow.holds Tryz.pinned (OpenSpec.ofChange fnLoopWrong)

/-- 'laws.FnRenamed': WHATEVER THE INPUT: true; the input reads as it did. -/
def fnRenamedSpec : ChangeSpec := { name := "fnRenamed", fn := fun _ => fun
  | [d1, d2, d3] => { results := [.lit (.bool true)], args := [d1, d2, d3] }
  | _ => none }
def fnRenamedRow : OpenClaim := { program := "ytpodifbgfcclbaagreatdoor", sum := "2b3f0b288dde12526d2dc840f24501d97a587e821c1a3c0c7386fd2cca4e82e2", func := "fieldgate/laws.FnRenamed", spec := "fnRenamed", unfollowed := true, recurses := true, named := ["internal/strconv.uint64pow10", "math/bits.deBruijn32tab", "math/bits.deBruijn64tab"], loops := true, plainKeys := false, apart := false, laid := [("math/bits.deBruijn32tab", laid_math_bits_deBruijn32tab), ("math/bits.deBruijn64tab", laid_math_bits_deBruijn64tab), ("internal/strconv.uint64pow10", laid_internal_strconv_uint64pow10)] }
def FnRenamedSaid : Prop := fnRenamedRow.holds Tryz.pinned (OpenSpec.ofChange fnRenamedSpec)

/-- ITS FALSE NEIGHBOUR: 'it returns false'. Refute it at one input. -/
def fnRenamedWrong : ChangeSpec := { name := "fnRenamed", fn := fun _ => fun
  | [d1, d2, d3] => { results := [.lit (.bool false)], args := [d1, d2, d3] }
  | _ => none }
def FnRenamedWrongFalsely : Prop := fnRenamedRow.holds Tryz.pinned (OpenSpec.ofChange fnRenamedWrong)

/-- 'laws.FnTurned': WHATEVER THE INPUT: true; the input reads as it did. -/
def fnTurnedSpec : ChangeSpec := { name := "fnTurned", fn := fun _ => fun
  | [d1, d2, d3, d4] => { results := [.lit (.bool true)], args := [d1, d2, d3, d4] }
  | _ => none }
def fnTurnedRow : OpenClaim := { program := "ytpodifbgfcclbaagreatdoor", sum := "2b3f0b288dde12526d2dc840f24501d97a587e821c1a3c0c7386fd2cca4e82e2", func := "fieldgate/laws.FnTurned", spec := "fnTurned", unfollowed := true, recurses := true, named := ["internal/strconv.uint64pow10", "math/bits.deBruijn32tab", "math/bits.deBruijn64tab"], loops := true, plainKeys := false, apart := false, laid := [("math/bits.deBruijn32tab", laid_math_bits_deBruijn32tab), ("math/bits.deBruijn64tab", laid_math_bits_deBruijn64tab), ("internal/strconv.uint64pow10", laid_internal_strconv_uint64pow10)] }
def FnTurnedSaid : Prop := fnTurnedRow.holds Tryz.pinned (OpenSpec.ofChange fnTurnedSpec)

/-- ITS FALSE NEIGHBOUR: 'it returns false'. Refute it at one input. -/
def fnTurnedWrong : ChangeSpec := { name := "fnTurned", fn := fun _ => fun
  | [d1, d2, d3, d4] => { results := [.lit (.bool false)], args := [d1, d2, d3, d4] }
  | _ => none }
def FnTurnedWrongFalsely : Prop := fnTurnedRow.holds Tryz.pinned (OpenSpec.ofChange fnTurnedWrong)

/-- 'laws.FnTwice': WHATEVER THE INPUT: true; the input reads as it did. -/
def fnTwiceSpec : ChangeSpec := { name := "fnTwice", fn := fun _ => fun
  | [d1, d2, d3] => { results := [.lit (.bool true)], args := [d1, d2, d3] }
  | _ => none }
def fnTwiceRow : OpenClaim := { program := "ytpodifbgfcclbaagreatdoor", sum := "2b3f0b288dde12526d2dc840f24501d97a587e821c1a3c0c7386fd2cca4e82e2", func := "fieldgate/laws.FnTwice", spec := "fnTwice", unfollowed := true, recurses := true, named := ["internal/strconv.uint64pow10", "math/bits.deBruijn32tab", "math/bits.deBruijn64tab"], loops := true, plainKeys := false, apart := false, laid := [("math/bits.deBruijn32tab", laid_math_bits_deBruijn32tab), ("math/bits.deBruijn64tab", laid_math_bits_deBruijn64tab), ("internal/strconv.uint64pow10", laid_internal_strconv_uint64pow10)] }
def FnTwiceSaid : Prop := fnTwiceRow.holds Tryz.pinned (OpenSpec.ofChange fnTwiceSpec)

/-- ITS FALSE NEIGHBOUR: 'it returns false'. Refute it at one input. -/
def fnTwiceWrong : ChangeSpec := { name := "fnTwice", fn := fun _ => fun
  | [d1, d2, d3] => { results := [.lit (.bool false)], args := [d1, d2, d3] }
  | _ => none }
def FnTwiceWrongFalsely : Prop := fnTwiceRow.holds Tryz.pinned (OpenSpec.ofChange fnTwiceWrong)

/-- 'laws.FnUnused': WHATEVER THE INPUT: true; the input reads as it did. -/
def fnUnusedSpec : ChangeSpec := { name := "fnUnused", fn := fun _ => fun
  | [d1, d2, d3] => { results := [.lit (.bool true)], args := [d1, d2, d3] }
  | _ => none }
def fnUnusedRow : OpenClaim := { program := "ytpodifbgfcclbaagreatdoor", sum := "2b3f0b288dde12526d2dc840f24501d97a587e821c1a3c0c7386fd2cca4e82e2", func := "fieldgate/laws.FnUnused", spec := "fnUnused", unfollowed := true, recurses := true, named := ["internal/strconv.uint64pow10", "math/bits.deBruijn32tab", "math/bits.deBruijn64tab"], loops := true, plainKeys := false, apart := false, laid := [("math/bits.deBruijn32tab", laid_math_bits_deBruijn32tab), ("math/bits.deBruijn64tab", laid_math_bits_deBruijn64tab), ("internal/strconv.uint64pow10", laid_internal_strconv_uint64pow10)] }
def FnUnusedSaid : Prop := fnUnusedRow.holds Tryz.pinned (OpenSpec.ofChange fnUnusedSpec)

/-- ITS FALSE NEIGHBOUR: 'it returns false'. Refute it at one input. -/
def fnUnusedWrong : ChangeSpec := { name := "fnUnused", fn := fun _ => fun
  | [d1, d2, d3] => { results := [.lit (.bool false)], args := [d1, d2, d3] }
  | _ => none }
def FnUnusedWrongFalsely : Prop := fnUnusedRow.holds Tryz.pinned (OpenSpec.ofChange fnUnusedWrong)

/- THE SECOND FORM. 'bulk': how many values and letters a reading holds, each counted each time it is reached (what is shared counts as often as it is met; a slice's spare places count too). A statement '..UptoSaid' is the law's where the arguments, and the package variables that the reading takes, are together of bulk at most 1048576: NARROWER than '..Said'. Prove '..Said' where nothing that the law and all that it calls make is longer than what came in: it says more and counts as full. Else prove '..UptoSaid'. A law counts once. -/
mutual
def uptoBulk {H : Type} : DataW H → Nat
  | .lit (.string bytes) => bytes.length + 1
  | .lit _ => 1
  | .nil => 1
  | .ptr d => uptoBulk d + 1
  | .slice elems spare => uptoBulkAll elems + uptoBulkAll spare + 1
  | .agg parts => uptoBulkAll parts + 1
  | .iface _ d => uptoBulk d + 1
  | .map entries => uptoBulkEntries entries + 1
  | .held _ => 1
def uptoBulkAll {H : Type} : List (DataW H) → Nat
  | [] => 0
  | d :: r => uptoBulk d + uptoBulkAll r
def uptoBulkEntries {H : Type} : List (Lit × DataW H) → Nat
  | [] => 0
  | x :: r => uptoBulkEntry x + uptoBulkEntries r
def uptoBulkEntry {H : Type} : Lit × DataW H → Nat
  | (.string bytes, d) => bytes.length + uptoBulk d + 1
  | (_, d) => uptoBulk d + 1
 end
def uptoSmall : (H : Type) → List (DataW H) → Bool := fun _ ds => decide (uptoBulkAll ds ≤ 1048576)
def OpenSpec.upto (s : _root_.Go.ChangeSpec) : _root_.Go.OpenSpec := { _root_.Go.OpenSpec.ofChange s with cond := some uptoSmall }

/-- 'laws.FnBackward', WHERE WHAT IT READS IS OF BULK AT MOST 1048576: true; the input reads as it did. -/
def fnBackwardUptoRow : OpenClaim := { program := "ytpodifbgfcclbaagreatdoor", sum := "2b3f0b288dde12526d2dc840f24501d97a587e821c1a3c0c7386fd2cca4e82e2", func := "fieldgate/laws.FnBackward", spec := "fnBackward", unfollowed := true, recurses := true, named := ["internal/strconv.uint64pow10", "math/bits.deBruijn32tab", "math/bits.deBruijn64tab"], loops := true, plainKeys := false, apart := false, laid := [("math/bits.deBruijn32tab", laid_math_bits_deBruijn32tab), ("math/bits.deBruijn64tab", laid_math_bits_deBruijn64tab), ("internal/strconv.uint64pow10", laid_internal_strconv_uint64pow10)], narrowed := true }
def FnBackwardUptoSaid : Prop := fnBackwardUptoRow.holds Tryz.pinned (OpenSpec.upto fnBackwardSpec)

/-- 'laws.FnBlock', WHERE WHAT IT READS IS OF BULK AT MOST 1048576: true; the input reads as it did. -/
def fnBlockUptoRow : OpenClaim := { program := "ytpodifbgfcclbaagreatdoor", sum := "2b3f0b288dde12526d2dc840f24501d97a587e821c1a3c0c7386fd2cca4e82e2", func := "fieldgate/laws.FnBlock", spec := "fnBlock", unfollowed := true, recurses := true, named := ["internal/strconv.uint64pow10", "math/bits.deBruijn32tab", "math/bits.deBruijn64tab"], loops := true, plainKeys := false, apart := false, laid := [("math/bits.deBruijn32tab", laid_math_bits_deBruijn32tab), ("math/bits.deBruijn64tab", laid_math_bits_deBruijn64tab), ("internal/strconv.uint64pow10", laid_internal_strconv_uint64pow10)], narrowed := true }
def FnBlockUptoSaid : Prop := fnBlockUptoRow.holds Tryz.pinned (OpenSpec.upto fnBlockSpec)

/-- 'laws.FnCases', WHERE WHAT IT READS IS OF BULK AT MOST 1048576: true; the input reads as it did. -/
def fnCasesUptoRow : OpenClaim := { program := "ytpodifbgfcclbaagreatdoor", sum := "2b3f0b288dde12526d2dc840f24501d97a587e821c1a3c0c7386fd2cca4e82e2", func := "fieldgate/laws.FnCases", spec := "fnCases", unfollowed := true, recurses := true, named := ["internal/strconv.uint64pow10", "math/bits.deBruijn32tab", "math/bits.deBruijn64tab"], loops := true, plainKeys := false, apart := false, laid := [("math/bits.deBruijn32tab", laid_math_bits_deBruijn32tab), ("math/bits.deBruijn64tab", laid_math_bits_deBruijn64tab), ("internal/strconv.uint64pow10", laid_internal_strconv_uint64pow10)], narrowed := true }
def FnCasesUptoSaid : Prop := fnCasesUptoRow.holds Tryz.pinned (OpenSpec.upto fnCasesSpec)

/-- 'laws.FnDefault', WHERE WHAT IT READS IS OF BULK AT MOST 1048576: true; the input reads as it did. -/
def fnDefaultUptoRow : OpenClaim := { program := "ytpodifbgfcclbaagreatdoor", sum := "2b3f0b288dde12526d2dc840f24501d97a587e821c1a3c0c7386fd2cca4e82e2", func := "fieldgate/laws.FnDefault", spec := "fnDefault", unfollowed := true, recurses := true, named := ["internal/strconv.uint64pow10", "math/bits.deBruijn32tab", "math/bits.deBruijn64tab"], loops := true, plainKeys := false, apart := false, laid := [("math/bits.deBruijn32tab", laid_math_bits_deBruijn32tab), ("math/bits.deBruijn64tab", laid_math_bits_deBruijn64tab), ("internal/strconv.uint64pow10", laid_internal_strconv_uint64pow10)], narrowed := true }
def FnDefaultUptoSaid : Prop := fnDefaultUptoRow.holds Tryz.pinned (OpenSpec.upto fnDefaultSpec)

/-- 'laws.FnEnds', WHERE WHAT IT READS IS OF BULK AT MOST 1048576: true; the input reads as it did. -/
def fnEndsUptoRow : OpenClaim := { program := "ytpodifbgfcclbaagreatdoor", sum := "2b3f0b288dde12526d2dc840f24501d97a587e821c1a3c0c7386fd2cca4e82e2", func := "fieldgate/laws.FnEnds", spec := "fnEnds", unfollowed := true, recurses := true, named := ["internal/strconv.uint64pow10", "math/bits.deBruijn32tab", "math/bits.deBruijn64tab"], loops := true, plainKeys := false, apart := false, laid := [("math/bits.deBruijn32tab", laid_math_bits_deBruijn32tab), ("math/bits.deBruijn64tab", laid_math_bits_deBruijn64tab), ("internal/strconv.uint64pow10", laid_internal_strconv_uint64pow10)], narrowed := true }
def FnEndsUptoSaid : Prop := fnEndsUptoRow.holds Tryz.pinned (OpenSpec.upto fnEndsSpec)

/-- 'laws.FnForward', WHERE WHAT IT READS IS OF BULK AT MOST 1048576: true; the input reads as it did. -/
def fnForwardUptoRow : OpenClaim := { program := "ytpodifbgfcclbaagreatdoor", sum := "2b3f0b288dde12526d2dc840f24501d97a587e821c1a3c0c7386fd2cca4e82e2", func := "fieldgate/laws.FnForward", spec := "fnForward", unfollowed := true, recurses := true, named := ["internal/strconv.uint64pow10", "math/bits.deBruijn32tab", "math/bits.deBruijn64tab"], loops := true, plainKeys := false, apart := false, laid := [("math/bits.deBruijn32tab", laid_math_bits_deBruijn32tab), ("math/bits.deBruijn64tab", laid_math_bits_deBruijn64tab), ("internal/strconv.uint64pow10", laid_internal_strconv_uint64pow10)], narrowed := true }
def FnForwardUptoSaid : Prop := fnForwardUptoRow.holds Tryz.pinned (OpenSpec.upto fnForwardSpec)

/-- 'laws.FnIf', WHERE WHAT IT READS IS OF BULK AT MOST 1048576: true; the input reads as it did. -/
def fnIfUptoRow : OpenClaim := { program := "ytpodifbgfcclbaagreatdoor", sum := "2b3f0b288dde12526d2dc840f24501d97a587e821c1a3c0c7386fd2cca4e82e2", func := "fieldgate/laws.FnIf", spec := "fnIf", unfollowed := true, recurses := true, named := ["internal/strconv.uint64pow10", "math/bits.deBruijn32tab", "math/bits.deBruijn64tab"], loops := true, plainKeys := false, apart := false, laid := [("math/bits.deBruijn32tab", laid_math_bits_deBruijn32tab), ("math/bits.deBruijn64tab", laid_math_bits_deBruijn64tab), ("internal/strconv.uint64pow10", laid_internal_strconv_uint64pow10)], narrowed := true }
def FnIfUptoSaid : Prop := fnIfUptoRow.holds Tryz.pinned (OpenSpec.upto fnIfSpec)

/-- 'laws.FnInBlock', WHERE WHAT IT READS IS OF BULK AT MOST 1048576: true; the input reads as it did. -/
def fnInBlockUptoRow : OpenClaim := { program := "ytpodifbgfcclbaagreatdoor", sum := "2b3f0b288dde12526d2dc840f24501d97a587e821c1a3c0c7386fd2cca4e82e2", func := "fieldgate/laws.FnInBlock", spec := "fnInBlock", unfollowed := true, recurses := true, named := ["internal/strconv.uint64pow10", "math/bits.deBruijn32tab", "math/bits.deBruijn64tab"], loops := true, plainKeys := false, apart := false, laid := [("math/bits.deBruijn32tab", laid_math_bits_deBruijn32tab), ("math/bits.deBruijn64tab", laid_math_bits_deBruijn64tab), ("internal/strconv.uint64pow10", laid_internal_strconv_uint64pow10)], narrowed := true }
def FnInBlockUptoSaid : Prop := fnInBlockUptoRow.holds Tryz.pinned (OpenSpec.upto fnInBlockSpec)

/-- 'laws.FnIntoBlock', WHERE WHAT IT READS IS OF BULK AT MOST 1048576: true; the input reads as it did. -/
def fnIntoBlockUptoRow : OpenClaim := { program := "ytpodifbgfcclbaagreatdoor", sum := "2b3f0b288dde12526d2dc840f24501d97a587e821c1a3c0c7386fd2cca4e82e2", func := "fieldgate/laws.FnIntoBlock", spec := "fnIntoBlock", unfollowed := true, recurses := true, named := ["internal/strconv.uint64pow10", "math/bits.deBruijn32tab", "math/bits.deBruijn64tab"], loops := true, plainKeys := false, apart := false, laid := [("math/bits.deBruijn32tab", laid_math_bits_deBruijn32tab), ("math/bits.deBruijn64tab", laid_math_bits_deBruijn64tab), ("internal/strconv.uint64pow10", laid_internal_strconv_uint64pow10)], narrowed := true }
def FnIntoBlockUptoSaid : Prop := fnIntoBlockUptoRow.holds Tryz.pinned (OpenSpec.upto fnIntoBlockSpec)

/-- 'laws.FnJumps', WHERE WHAT IT READS IS OF BULK AT MOST 1048576: true; the input reads as it did. -/
def fnJumpsUptoRow : OpenClaim := { program := "ytpodifbgfcclbaagreatdoor", sum := "2b3f0b288dde12526d2dc840f24501d97a587e821c1a3c0c7386fd2cca4e82e2", func := "fieldgate/laws.FnJumps", spec := "fnJumps", unfollowed := true, recurses := true, named := ["internal/strconv.uint64pow10", "math/bits.deBruijn32tab", "math/bits.deBruijn64tab"], loops := true, plainKeys := false, apart := false, laid := [("math/bits.deBruijn32tab", laid_math_bits_deBruijn32tab), ("math/bits.deBruijn64tab", laid_math_bits_deBruijn64tab), ("internal/strconv.uint64pow10", laid_internal_strconv_uint64pow10)], narrowed := true }
def FnJumpsUptoSaid : Prop := fnJumpsUptoRow.holds Tryz.pinned (OpenSpec.upto fnJumpsSpec)

/-- 'laws.FnLast', WHERE WHAT IT READS IS OF BULK AT MOST 1048576: true; the input reads as it did. -/
def fnLastUptoRow : OpenClaim := { program := "ytpodifbgfcclbaagreatdoor", sum := "2b3f0b288dde12526d2dc840f24501d97a587e821c1a3c0c7386fd2cca4e82e2", func := "fieldgate/laws.FnLast", spec := "fnLast", unfollowed := true, recurses := true, named := ["internal/strconv.uint64pow10", "math/bits.deBruijn32tab", "math/bits.deBruijn64tab"], loops := true, plainKeys := false, apart := false, laid := [("math/bits.deBruijn32tab", laid_math_bits_deBruijn32tab), ("math/bits.deBruijn64tab", laid_math_bits_deBruijn64tab), ("internal/strconv.uint64pow10", laid_internal_strconv_uint64pow10)], narrowed := true }
def FnLastUptoSaid : Prop := fnLastUptoRow.holds Tryz.pinned (OpenSpec.upto fnLastSpec)

/-- 'laws.FnLeft', WHERE WHAT IT READS IS OF BULK AT MOST 1048576: true; the input reads as it did. -/
def fnLeftUptoRow : OpenClaim := { program := "ytpodifbgfcclbaagreatdoor", sum := "2b3f0b288dde12526d2dc840f24501d97a587e821c1a3c0c7386fd2cca4e82e2", func := "fieldgate/laws.FnLeft", spec := "fnLeft", unfollowed := true, recurses := true, named := ["internal/strconv.uint64pow10", "math/bits.deBruijn32tab", "math/bits.deBruijn64tab"], loops := true, plainKeys := false, apart := false, laid := [("math/bits.deBruijn32tab", laid_math_bits_deBruijn32tab), ("math/bits.deBruijn64tab", laid_math_bits_deBruijn64tab), ("internal/strconv.uint64pow10", laid_internal_strconv_uint64pow10)], narrowed := true }
def FnLeftUptoSaid : Prop := fnLeftUptoRow.holds Tryz.pinned (OpenSpec.upto fnLeftSpec)

/-- 'laws.FnLiteral', WHERE WHAT IT READS IS OF BULK AT MOST 1048576: true; the input reads as it did. -/
def fnLiteralUptoRow : OpenClaim := { program := "ytpodifbgfcclbaagreatdoor", sum := "2b3f0b288dde12526d2dc840f24501d97a587e821c1a3c0c7386fd2cca4e82e2", func := "fieldgate/laws.FnLiteral", spec := "fnLiteral", unfollowed := true, recurses := true, named := ["internal/strconv.uint64pow10", "math/bits.deBruijn32tab", "math/bits.deBruijn64tab"], loops := true, plainKeys := false, apart := false, laid := [("math/bits.deBruijn32tab", laid_math_bits_deBruijn32tab), ("math/bits.deBruijn64tab", laid_math_bits_deBruijn64tab), ("internal/strconv.uint64pow10", laid_internal_strconv_uint64pow10)], narrowed := true }
def FnLiteralUptoSaid : Prop := fnLiteralUptoRow.holds Tryz.pinned (OpenSpec.upto fnLiteralSpec)

/-- 'laws.FnLoop', WHERE WHAT IT READS IS OF BULK AT MOST 1048576: true; the input reads as it did. -/
def fnLoopUptoRow : OpenClaim := { program := "ytpodifbgfcclbaagreatdoor", sum := "2b3f0b288dde12526d2dc840f24501d97a587e821c1a3c0c7386fd2cca4e82e2", func := "fieldgate/laws.FnLoop", spec := "fnLoop", unfollowed := true, recurses := true, named := ["internal/strconv.uint64pow10", "math/bits.deBruijn32tab", "math/bits.deBruijn64tab"], loops := true, plainKeys := false, apart := false, laid := [("math/bits.deBruijn32tab", laid_math_bits_deBruijn32tab), ("math/bits.deBruijn64tab", laid_math_bits_deBruijn64tab), ("internal/strconv.uint64pow10", laid_internal_strconv_uint64pow10)], narrowed := true }
def FnLoopUptoSaid : Prop := fnLoopUptoRow.holds Tryz.pinned (OpenSpec.upto fnLoopSpec)

/-- 'laws.FnRenamed', WHERE WHAT IT READS IS OF BULK AT MOST 1048576: true; the input reads as it did. -/
def fnRenamedUptoRow : OpenClaim := { program := "ytpodifbgfcclbaagreatdoor", sum := "2b3f0b288dde12526d2dc840f24501d97a587e821c1a3c0c7386fd2cca4e82e2", func := "fieldgate/laws.FnRenamed", spec := "fnRenamed", unfollowed := true, recurses := true, named := ["internal/strconv.uint64pow10", "math/bits.deBruijn32tab", "math/bits.deBruijn64tab"], loops := true, plainKeys := false, apart := false, laid := [("math/bits.deBruijn32tab", laid_math_bits_deBruijn32tab), ("math/bits.deBruijn64tab", laid_math_bits_deBruijn64tab), ("internal/strconv.uint64pow10", laid_internal_strconv_uint64pow10)], narrowed := true }
def FnRenamedUptoSaid : Prop := fnRenamedUptoRow.holds Tryz.pinned (OpenSpec.upto fnRenamedSpec)

/-- 'laws.FnTurned', WHERE WHAT IT READS IS OF BULK AT MOST 1048576: true; the input reads as it did. -/
def fnTurnedUptoRow : OpenClaim := { program := "ytpodifbgfcclbaagreatdoor", sum := "2b3f0b288dde12526d2dc840f24501d97a587e821c1a3c0c7386fd2cca4e82e2", func := "fieldgate/laws.FnTurned", spec := "fnTurned", unfollowed := true, recurses := true, named := ["internal/strconv.uint64pow10", "math/bits.deBruijn32tab", "math/bits.deBruijn64tab"], loops := true, plainKeys := false, apart := false, laid := [("math/bits.deBruijn32tab", laid_math_bits_deBruijn32tab), ("math/bits.deBruijn64tab", laid_math_bits_deBruijn64tab), ("internal/strconv.uint64pow10", laid_internal_strconv_uint64pow10)], narrowed := true }
def FnTurnedUptoSaid : Prop := fnTurnedUptoRow.holds Tryz.pinned (OpenSpec.upto fnTurnedSpec)

/-- 'laws.FnTwice', WHERE WHAT IT READS IS OF BULK AT MOST 1048576: true; the input reads as it did. -/
def fnTwiceUptoRow : OpenClaim := { program := "ytpodifbgfcclbaagreatdoor", sum := "2b3f0b288dde12526d2dc840f24501d97a587e821c1a3c0c7386fd2cca4e82e2", func := "fieldgate/laws.FnTwice", spec := "fnTwice", unfollowed := true, recurses := true, named := ["internal/strconv.uint64pow10", "math/bits.deBruijn32tab", "math/bits.deBruijn64tab"], loops := true, plainKeys := false, apart := false, laid := [("math/bits.deBruijn32tab", laid_math_bits_deBruijn32tab), ("math/bits.deBruijn64tab", laid_math_bits_deBruijn64tab), ("internal/strconv.uint64pow10", laid_internal_strconv_uint64pow10)], narrowed := true }
def FnTwiceUptoSaid : Prop := fnTwiceUptoRow.holds Tryz.pinned (OpenSpec.upto fnTwiceSpec)

/-- 'laws.FnUnused', WHERE WHAT IT READS IS OF BULK AT MOST 1048576: true; the input reads as it did. -/
def fnUnusedUptoRow : OpenClaim := { program := "ytpodifbgfcclbaagreatdoor", sum := "2b3f0b288dde12526d2dc840f24501d97a587e821c1a3c0c7386fd2cca4e82e2", func := "fieldgate/laws.FnUnused", spec := "fnUnused", unfollowed := true, recurses := true, named := ["internal/strconv.uint64pow10", "math/bits.deBruijn32tab", "math/bits.deBruijn64tab"], loops := true, plainKeys := false, apart := false, laid := [("math/bits.deBruijn32tab", laid_math_bits_deBruijn32tab), ("math/bits.deBruijn64tab", laid_math_bits_deBruijn64tab), ("internal/strconv.uint64pow10", laid_internal_strconv_uint64pow10)], narrowed := true }
def FnUnusedUptoSaid : Prop := fnUnusedUptoRow.holds Tryz.pinned (OpenSpec.upto fnUnusedSpec)

end Rows
end Go.Proofs.YtpodifbgfcclbaaGreatDoor
