/-
  NARROWER THAN 'FOR EVERY INPUT', by the rows' own cells (each row's printed sentence says how): FnFields: loops, ifaces, laid · FnTrimmed: loops, ifaces, laid · FnDescribed: loops, ifaces, laid · FnNext: loops, ifaces, laid · FnPlaces: loops, ifaces, laid · FnTaken: loops, ifaces, laid · FnMacros: ifaces, laid · FnRefused: loops, ifaces, laid · FnFires: loops, ifaces, laid.
  DERIVED. THE GIVEN ROWS OF THIS SEAT. 9 by the template 'for every input the law returns true; each argument reads behind the call as it read before'; 0 by the template 'total and deterministic' (their statements: YtmaffdhcmdhjfaaGreatDoorTotals.lean).
  GIVEN WITH THE SEED: the statements are not yours to turn. If you find one false, say at which input.
  Laid BY PROGRAM, IN A SANDBOX (cutbox-rows.mjs): the forced cells as the released guide's own fill.sh prints them over the translation 791175e6ca751751… (all of the seat's roots in one cut). By AI agents, Wed Nov 11 2026. No macro, syntax, notation, axiom, sorry.
-/
import Derived.Test.YtmaffdhcmdhjfaaGreatDoorChecked
import GoSem.Claim
import GoSem.ClaimJoined
import GoSem.ClaimMapViews
import Derived.JoinedTies
import Derived.KernelRfl
namespace Go.Proofs.YtmaffdhcmdhjfaaGreatDoor
/- THE CELL 'sum', in the pinned program and in every row, IS THE sha256 OF THE DUMP (.gsa) THAT YtmaffdhcmdhjfaaGreatDoorProg.lean LOADS. Nothing in Lean hashes anything: it is a label: what it is worth is what the hold of that sum in a sandbox is worth. -/
noncomputable def Tryz.pinned : Pinned := { name := "ytmaffdhcmdhjfaagreatdoor", sum := "791175e6ca751751f031e48dde30a639023f2d0911750189e59c79b35f62e424", checked := Tryz.checked }
namespace Rows
def none {H : Type} : Left H := { results := [], args := [] }

/- WHAT THE LISTED PACKAGE-LEVEL VARIABLES READ AS WHEN THE CALL BEGINS. Each datum BY PROGRAM (the guide's laid-datum.mjs) off the statement by which the dump's own 'gosem.cut.vars' lays the variable. In a bare row this is a premise. The card (YtmaffdhcmdhjfaaGreatDoorCards.lean) ties it to the program's text. -/
def laid_math_bits_deBruijn32tab {H : Type} : DataW H := .agg [.lit (.int .u8 0), .lit (.int .u8 1), .lit (.int .u8 28), .lit (.int .u8 2), .lit (.int .u8 29), .lit (.int .u8 14), .lit (.int .u8 24), .lit (.int .u8 3), .lit (.int .u8 30), .lit (.int .u8 22), .lit (.int .u8 20), .lit (.int .u8 15), .lit (.int .u8 25), .lit (.int .u8 17), .lit (.int .u8 4), .lit (.int .u8 8), .lit (.int .u8 31), .lit (.int .u8 27), .lit (.int .u8 13), .lit (.int .u8 23), .lit (.int .u8 21), .lit (.int .u8 19), .lit (.int .u8 16), .lit (.int .u8 7), .lit (.int .u8 26), .lit (.int .u8 12), .lit (.int .u8 18), .lit (.int .u8 6), .lit (.int .u8 11), .lit (.int .u8 5), .lit (.int .u8 10), .lit (.int .u8 9)]
def laid_math_bits_deBruijn64tab {H : Type} : DataW H := .agg [.lit (.int .u8 0), .lit (.int .u8 1), .lit (.int .u8 56), .lit (.int .u8 2), .lit (.int .u8 57), .lit (.int .u8 49), .lit (.int .u8 28), .lit (.int .u8 3), .lit (.int .u8 61), .lit (.int .u8 58), .lit (.int .u8 42), .lit (.int .u8 50), .lit (.int .u8 38), .lit (.int .u8 29), .lit (.int .u8 17), .lit (.int .u8 4), .lit (.int .u8 62), .lit (.int .u8 47), .lit (.int .u8 59), .lit (.int .u8 36), .lit (.int .u8 45), .lit (.int .u8 43), .lit (.int .u8 51), .lit (.int .u8 22), .lit (.int .u8 53), .lit (.int .u8 39), .lit (.int .u8 33), .lit (.int .u8 30), .lit (.int .u8 24), .lit (.int .u8 18), .lit (.int .u8 12), .lit (.int .u8 5), .lit (.int .u8 63), .lit (.int .u8 55), .lit (.int .u8 48), .lit (.int .u8 27), .lit (.int .u8 60), .lit (.int .u8 41), .lit (.int .u8 37), .lit (.int .u8 16), .lit (.int .u8 46), .lit (.int .u8 35), .lit (.int .u8 44), .lit (.int .u8 21), .lit (.int .u8 52), .lit (.int .u8 32), .lit (.int .u8 23), .lit (.int .u8 11), .lit (.int .u8 54), .lit (.int .u8 26), .lit (.int .u8 40), .lit (.int .u8 15), .lit (.int .u8 34), .lit (.int .u8 20), .lit (.int .u8 31), .lit (.int .u8 10), .lit (.int .u8 25), .lit (.int .u8 14), .lit (.int .u8 19), .lit (.int .u8 9), .lit (.int .u8 13), .lit (.int .u8 8), .lit (.int .u8 7), .lit (.int .u8 6)]
def laid_internal_strconv_uint64pow10 {H : Type} : DataW H := .agg [.lit (.int .u64 1), .lit (.int .u64 10), .lit (.int .u64 100), .lit (.int .u64 1000), .lit (.int .u64 10000), .lit (.int .u64 100000), .lit (.int .u64 1000000), .lit (.int .u64 10000000), .lit (.int .u64 100000000), .lit (.int .u64 1000000000), .lit (.int .u64 10000000000), .lit (.int .u64 100000000000), .lit (.int .u64 1000000000000), .lit (.int .u64 10000000000000), .lit (.int .u64 100000000000000), .lit (.int .u64 1000000000000000), .lit (.int .u64 10000000000000000), .lit (.int .u64 100000000000000000), .lit (.int .u64 1000000000000000000), .lit (.int .u64 10000000000000000000)]
def laid_strconv_ErrRange {H : Type} : DataW H := .iface "*errors.errorString" (.ptr (.agg [.lit (.string [118, 97, 108, 117, 101, 32, 111, 117, 116, 32, 111, 102, 32, 114, 97, 110, 103, 101])]))
def laid_strconv_ErrSyntax {H : Type} : DataW H := .iface "*errors.errorString" (.ptr (.agg [.lit (.string [105, 110, 118, 97, 108, 105, 100, 32, 115, 121, 110, 116, 97, 120])]))
def laid_loop_example_pub_g03356_pub_quartz_ErrCronParse {H : Type} : DataW H := .iface "*errors.errorString" (.ptr (.agg [.lit (.string [112, 97, 114, 115, 101, 32, 99, 114, 111, 110, 32, 101, 120, 112, 114, 101, 115, 115, 105, 111, 110])]))
def laid_loop_example_pub_g03356_pub_quartz_ErrIllegalArgument {H : Type} : DataW H := .iface "*errors.errorString" (.ptr (.agg [.lit (.string [105, 108, 108, 101, 103, 97, 108, 32, 97, 114, 103, 117, 109, 101, 110, 116])]))
def laid_loop_example_pub_g03356_pub_quartz_ErrTriggerExpired {H : Type} : DataW H := .iface "*errors.errorString" (.ptr (.agg [.lit (.string [116, 114, 105, 103, 103, 101, 114, 32, 104, 97, 115, 32, 101, 120, 112, 105, 114, 101, 100])]))

/-- 'laws.FnFields': WHATEVER THE INPUT: true; the input reads as it did. -/
def fnFieldsSpec : ChangeSpec := { name := "fnFields", vars := ["loop.example/pub-g03356/pub/quartz.ErrCronParse"], fn := fun _ => fun
  | [d, g1] => { results := [.lit (.bool true)], args := [d], vars := [g1] }
  | _ => none }
def fnFieldsRow : OpenClaim := { program := "ytmaffdhcmdhjfaagreatdoor", sum := "791175e6ca751751f031e48dde30a639023f2d0911750189e59c79b35f62e424", func := "loop.example/pub-g03356/laws.FnFields", spec := "fnFields", recurses := true, named := ["internal/strconv.uint64pow10", "math/bits.deBruijn32tab", "math/bits.deBruijn64tab", "loop.example/pub-g03356/pub/quartz.ErrCronParse", "strconv.ErrSyntax", "strconv.ErrRange"], ifaces := true, loops := true, apart := false, laid := [("math/bits.deBruijn32tab", laid_math_bits_deBruijn32tab), ("math/bits.deBruijn64tab", laid_math_bits_deBruijn64tab), ("internal/strconv.uint64pow10", laid_internal_strconv_uint64pow10), ("strconv.ErrRange", laid_strconv_ErrRange), ("strconv.ErrSyntax", laid_strconv_ErrSyntax), ("loop.example/pub-g03356/pub/quartz.ErrCronParse", laid_loop_example_pub_g03356_pub_quartz_ErrCronParse)] }
def FnFieldsSaid : Prop := fnFieldsRow.holds Tryz.pinned (OpenSpec.ofChange fnFieldsSpec)

/-- ITS FALSE NEIGHBOUR: 'it returns false'. Refute it at one input. -/
def fnFieldsWrong : ChangeSpec := { name := "fnFields", vars := ["loop.example/pub-g03356/pub/quartz.ErrCronParse"], fn := fun _ => fun
  | [d, g1] => { results := [.lit (.bool false)], args := [d], vars := [g1] }
  | _ => none }
def FnFieldsWrongFalsely : Prop := fnFieldsRow.holds Tryz.pinned (OpenSpec.ofChange fnFieldsWrong)

/-- 'laws.FnTrimmed': WHATEVER THE INPUT: true; the input reads as it did. -/
def fnTrimmedSpec : ChangeSpec := { name := "fnTrimmed", vars := ["loop.example/pub-g03356/pub/quartz.ErrCronParse"], fn := fun _ => fun
  | [d1, d2, g1] => { results := [.lit (.bool true)], args := [d1, d2], vars := [g1] }
  | _ => none }
def fnTrimmedRow : OpenClaim := { program := "ytmaffdhcmdhjfaagreatdoor", sum := "791175e6ca751751f031e48dde30a639023f2d0911750189e59c79b35f62e424", func := "loop.example/pub-g03356/laws.FnTrimmed", spec := "fnTrimmed", recurses := true, named := ["internal/strconv.uint64pow10", "math/bits.deBruijn32tab", "math/bits.deBruijn64tab", "loop.example/pub-g03356/pub/quartz.ErrCronParse", "strconv.ErrSyntax", "strconv.ErrRange"], ifaces := true, loops := true, apart := false, laid := [("math/bits.deBruijn32tab", laid_math_bits_deBruijn32tab), ("math/bits.deBruijn64tab", laid_math_bits_deBruijn64tab), ("internal/strconv.uint64pow10", laid_internal_strconv_uint64pow10), ("strconv.ErrRange", laid_strconv_ErrRange), ("strconv.ErrSyntax", laid_strconv_ErrSyntax), ("loop.example/pub-g03356/pub/quartz.ErrCronParse", laid_loop_example_pub_g03356_pub_quartz_ErrCronParse)] }
def FnTrimmedSaid : Prop := fnTrimmedRow.holds Tryz.pinned (OpenSpec.ofChange fnTrimmedSpec)

/-- ITS FALSE NEIGHBOUR: 'it returns false'. Refute it at one input. -/
def fnTrimmedWrong : ChangeSpec := { name := "fnTrimmed", vars := ["loop.example/pub-g03356/pub/quartz.ErrCronParse"], fn := fun _ => fun
  | [d1, d2, g1] => { results := [.lit (.bool false)], args := [d1, d2], vars := [g1] }
  | _ => none }
def FnTrimmedWrongFalsely : Prop := fnTrimmedRow.holds Tryz.pinned (OpenSpec.ofChange fnTrimmedWrong)

/-- 'laws.FnDescribed': WHATEVER THE INPUT: true; the input reads as it did. -/
def fnDescribedSpec : ChangeSpec := { name := "fnDescribed", vars := ["loop.example/pub-g03356/pub/quartz.ErrIllegalArgument", "loop.example/pub-g03356/pub/quartz.ErrCronParse"], fn := fun _ => fun
  | [d1, d2, d3, g1, g2] => { results := [.lit (.bool true)], args := [d1, d2, d3], vars := [g1, g2] }
  | _ => none }
def fnDescribedRow : OpenClaim := { program := "ytmaffdhcmdhjfaagreatdoor", sum := "791175e6ca751751f031e48dde30a639023f2d0911750189e59c79b35f62e424", func := "loop.example/pub-g03356/laws.FnDescribed", spec := "fnDescribed", recurses := true, named := ["internal/strconv.uint64pow10", "math/bits.deBruijn32tab", "math/bits.deBruijn64tab", "loop.example/pub-g03356/pub/quartz.ErrIllegalArgument", "loop.example/pub-g03356/pub/quartz.ErrCronParse", "strconv.ErrSyntax", "strconv.ErrRange"], ifaces := true, loops := true, apart := false, laid := [("math/bits.deBruijn32tab", laid_math_bits_deBruijn32tab), ("math/bits.deBruijn64tab", laid_math_bits_deBruijn64tab), ("internal/strconv.uint64pow10", laid_internal_strconv_uint64pow10), ("strconv.ErrRange", laid_strconv_ErrRange), ("strconv.ErrSyntax", laid_strconv_ErrSyntax), ("loop.example/pub-g03356/pub/quartz.ErrIllegalArgument", laid_loop_example_pub_g03356_pub_quartz_ErrIllegalArgument), ("loop.example/pub-g03356/pub/quartz.ErrCronParse", laid_loop_example_pub_g03356_pub_quartz_ErrCronParse)] }
def FnDescribedSaid : Prop := fnDescribedRow.holds Tryz.pinned (OpenSpec.ofChange fnDescribedSpec)

/-- ITS FALSE NEIGHBOUR: 'it returns false'. Refute it at one input. -/
def fnDescribedWrong : ChangeSpec := { name := "fnDescribed", vars := ["loop.example/pub-g03356/pub/quartz.ErrIllegalArgument", "loop.example/pub-g03356/pub/quartz.ErrCronParse"], fn := fun _ => fun
  | [d1, d2, d3, g1, g2] => { results := [.lit (.bool false)], args := [d1, d2, d3], vars := [g1, g2] }
  | _ => none }
def FnDescribedWrongFalsely : Prop := fnDescribedRow.holds Tryz.pinned (OpenSpec.ofChange fnDescribedWrong)

/-- 'laws.FnNext': WHATEVER THE INPUT: true; the input reads as it did. -/
def fnNextSpec : ChangeSpec := { name := "fnNext", vars := ["loop.example/pub-g03356/pub/quartz.ErrIllegalArgument", "loop.example/pub-g03356/pub/quartz.ErrCronParse", "loop.example/pub-g03356/pub/quartz.ErrTriggerExpired"], fn := fun _ => fun
  | [d1, d2, d3, g1, g2, g3] => { results := [.lit (.bool true)], args := [d1, d2, d3], vars := [g1, g2, g3] }
  | _ => none }
def fnNextRow : OpenClaim := { program := "ytmaffdhcmdhjfaagreatdoor", sum := "791175e6ca751751f031e48dde30a639023f2d0911750189e59c79b35f62e424", func := "loop.example/pub-g03356/laws.FnNext", spec := "fnNext", unfollowed := true, recurses := true, named := ["internal/strconv.uint64pow10", "math/bits.deBruijn32tab", "math/bits.deBruijn64tab", "loop.example/pub-g03356/pub/quartz.ErrIllegalArgument", "loop.example/pub-g03356/pub/quartz.ErrCronParse", "strconv.ErrSyntax", "strconv.ErrRange", "loop.example/pub-g03356/pub/quartz.ErrTriggerExpired"], ifaces := true, loops := true, apart := false, laid := [("math/bits.deBruijn32tab", laid_math_bits_deBruijn32tab), ("math/bits.deBruijn64tab", laid_math_bits_deBruijn64tab), ("internal/strconv.uint64pow10", laid_internal_strconv_uint64pow10), ("strconv.ErrRange", laid_strconv_ErrRange), ("strconv.ErrSyntax", laid_strconv_ErrSyntax), ("loop.example/pub-g03356/pub/quartz.ErrIllegalArgument", laid_loop_example_pub_g03356_pub_quartz_ErrIllegalArgument), ("loop.example/pub-g03356/pub/quartz.ErrCronParse", laid_loop_example_pub_g03356_pub_quartz_ErrCronParse), ("loop.example/pub-g03356/pub/quartz.ErrTriggerExpired", laid_loop_example_pub_g03356_pub_quartz_ErrTriggerExpired)] }
def FnNextSaid : Prop := fnNextRow.holds Tryz.pinned (OpenSpec.ofChange fnNextSpec)

/-- ITS FALSE NEIGHBOUR: 'it returns false'. Refute it at one input. -/
def fnNextWrong : ChangeSpec := { name := "fnNext", vars := ["loop.example/pub-g03356/pub/quartz.ErrIllegalArgument", "loop.example/pub-g03356/pub/quartz.ErrCronParse", "loop.example/pub-g03356/pub/quartz.ErrTriggerExpired"], fn := fun _ => fun
  | [d1, d2, d3, g1, g2, g3] => { results := [.lit (.bool false)], args := [d1, d2, d3], vars := [g1, g2, g3] }
  | _ => none }
def FnNextWrongFalsely : Prop := fnNextRow.holds Tryz.pinned (OpenSpec.ofChange fnNextWrong)

/-- 'laws.FnPlaces': WHATEVER THE INPUT: true; the input reads as it did. -/
def fnPlacesSpec : ChangeSpec := { name := "fnPlaces", vars := ["loop.example/pub-g03356/pub/quartz.ErrIllegalArgument", "loop.example/pub-g03356/pub/quartz.ErrCronParse", "loop.example/pub-g03356/pub/quartz.ErrTriggerExpired"], fn := fun _ => fun
  | [d1, d2, d3, g1, g2, g3] => { results := [.lit (.bool true)], args := [d1, d2, d3], vars := [g1, g2, g3] }
  | _ => none }
def fnPlacesRow : OpenClaim := { program := "ytmaffdhcmdhjfaagreatdoor", sum := "791175e6ca751751f031e48dde30a639023f2d0911750189e59c79b35f62e424", func := "loop.example/pub-g03356/laws.FnPlaces", spec := "fnPlaces", unfollowed := true, recurses := true, named := ["internal/strconv.uint64pow10", "math/bits.deBruijn32tab", "math/bits.deBruijn64tab", "loop.example/pub-g03356/pub/quartz.ErrIllegalArgument", "loop.example/pub-g03356/pub/quartz.ErrCronParse", "strconv.ErrSyntax", "strconv.ErrRange", "loop.example/pub-g03356/pub/quartz.ErrTriggerExpired"], ifaces := true, loops := true, apart := false, laid := [("math/bits.deBruijn32tab", laid_math_bits_deBruijn32tab), ("math/bits.deBruijn64tab", laid_math_bits_deBruijn64tab), ("internal/strconv.uint64pow10", laid_internal_strconv_uint64pow10), ("strconv.ErrRange", laid_strconv_ErrRange), ("strconv.ErrSyntax", laid_strconv_ErrSyntax), ("loop.example/pub-g03356/pub/quartz.ErrIllegalArgument", laid_loop_example_pub_g03356_pub_quartz_ErrIllegalArgument), ("loop.example/pub-g03356/pub/quartz.ErrCronParse", laid_loop_example_pub_g03356_pub_quartz_ErrCronParse), ("loop.example/pub-g03356/pub/quartz.ErrTriggerExpired", laid_loop_example_pub_g03356_pub_quartz_ErrTriggerExpired)] }
def FnPlacesSaid : Prop := fnPlacesRow.holds Tryz.pinned (OpenSpec.ofChange fnPlacesSpec)

/-- ITS FALSE NEIGHBOUR: 'it returns false'. Refute it at one input. -/
def fnPlacesWrong : ChangeSpec := { name := "fnPlaces", vars := ["loop.example/pub-g03356/pub/quartz.ErrIllegalArgument", "loop.example/pub-g03356/pub/quartz.ErrCronParse", "loop.example/pub-g03356/pub/quartz.ErrTriggerExpired"], fn := fun _ => fun
  | [d1, d2, d3, g1, g2, g3] => { results := [.lit (.bool false)], args := [d1, d2, d3], vars := [g1, g2, g3] }
  | _ => none }
def FnPlacesWrongFalsely : Prop := fnPlacesRow.holds Tryz.pinned (OpenSpec.ofChange fnPlacesWrong)

/-- 'laws.FnTaken': WHATEVER THE INPUT: true; the input reads as it did. -/
def fnTakenSpec : ChangeSpec := { name := "fnTaken", vars := ["loop.example/pub-g03356/pub/quartz.ErrIllegalArgument", "loop.example/pub-g03356/pub/quartz.ErrCronParse", "loop.example/pub-g03356/pub/quartz.ErrTriggerExpired"], fn := fun _ => fun
  | [d, g1, g2, g3] => { results := [.lit (.bool true)], args := [d], vars := [g1, g2, g3] }
  | _ => none }
def fnTakenRow : OpenClaim := { program := "ytmaffdhcmdhjfaagreatdoor", sum := "791175e6ca751751f031e48dde30a639023f2d0911750189e59c79b35f62e424", func := "loop.example/pub-g03356/laws.FnTaken", spec := "fnTaken", unfollowed := true, recurses := true, named := ["internal/strconv.uint64pow10", "math/bits.deBruijn32tab", "math/bits.deBruijn64tab", "loop.example/pub-g03356/pub/quartz.ErrIllegalArgument", "loop.example/pub-g03356/pub/quartz.ErrCronParse", "strconv.ErrSyntax", "strconv.ErrRange", "loop.example/pub-g03356/pub/quartz.ErrTriggerExpired"], ifaces := true, loops := true, apart := false, laid := [("math/bits.deBruijn32tab", laid_math_bits_deBruijn32tab), ("math/bits.deBruijn64tab", laid_math_bits_deBruijn64tab), ("internal/strconv.uint64pow10", laid_internal_strconv_uint64pow10), ("strconv.ErrRange", laid_strconv_ErrRange), ("strconv.ErrSyntax", laid_strconv_ErrSyntax), ("loop.example/pub-g03356/pub/quartz.ErrIllegalArgument", laid_loop_example_pub_g03356_pub_quartz_ErrIllegalArgument), ("loop.example/pub-g03356/pub/quartz.ErrCronParse", laid_loop_example_pub_g03356_pub_quartz_ErrCronParse), ("loop.example/pub-g03356/pub/quartz.ErrTriggerExpired", laid_loop_example_pub_g03356_pub_quartz_ErrTriggerExpired)] }
def FnTakenSaid : Prop := fnTakenRow.holds Tryz.pinned (OpenSpec.ofChange fnTakenSpec)

/-- ITS FALSE NEIGHBOUR: 'it returns false'. Refute it at one input. -/
def fnTakenWrong : ChangeSpec := { name := "fnTaken", vars := ["loop.example/pub-g03356/pub/quartz.ErrIllegalArgument", "loop.example/pub-g03356/pub/quartz.ErrCronParse", "loop.example/pub-g03356/pub/quartz.ErrTriggerExpired"], fn := fun _ => fun
  | [d, g1, g2, g3] => { results := [.lit (.bool false)], args := [d], vars := [g1, g2, g3] }
  | _ => none }
def FnTakenWrongFalsely : Prop := fnTakenRow.holds Tryz.pinned (OpenSpec.ofChange fnTakenWrong)

/-- 'laws.FnMacros': WHATEVER THE INPUT: true; the input reads as it did. -/
def fnMacrosSpec : ChangeSpec := { name := "fnMacros", vars := ["loop.example/pub-g03356/pub/quartz.ErrIllegalArgument", "loop.example/pub-g03356/pub/quartz.ErrCronParse", "loop.example/pub-g03356/pub/quartz.ErrTriggerExpired"], fn := fun _ => fun
  | [d1, d2, d3, g1, g2, g3] => { results := [.lit (.bool true)], args := [d1, d2, d3], vars := [g1, g2, g3] }
  | _ => none }
def fnMacrosRow : OpenClaim := { program := "ytmaffdhcmdhjfaagreatdoor", sum := "791175e6ca751751f031e48dde30a639023f2d0911750189e59c79b35f62e424", func := "loop.example/pub-g03356/laws.FnMacros", spec := "fnMacros", unfollowed := true, recurses := true, named := ["internal/strconv.uint64pow10", "math/bits.deBruijn32tab", "math/bits.deBruijn64tab", "loop.example/pub-g03356/pub/quartz.ErrIllegalArgument", "loop.example/pub-g03356/pub/quartz.ErrCronParse", "strconv.ErrSyntax", "strconv.ErrRange", "loop.example/pub-g03356/pub/quartz.ErrTriggerExpired"], ifaces := true, apart := false, laid := [("math/bits.deBruijn32tab", laid_math_bits_deBruijn32tab), ("math/bits.deBruijn64tab", laid_math_bits_deBruijn64tab), ("internal/strconv.uint64pow10", laid_internal_strconv_uint64pow10), ("strconv.ErrRange", laid_strconv_ErrRange), ("strconv.ErrSyntax", laid_strconv_ErrSyntax), ("loop.example/pub-g03356/pub/quartz.ErrIllegalArgument", laid_loop_example_pub_g03356_pub_quartz_ErrIllegalArgument), ("loop.example/pub-g03356/pub/quartz.ErrCronParse", laid_loop_example_pub_g03356_pub_quartz_ErrCronParse), ("loop.example/pub-g03356/pub/quartz.ErrTriggerExpired", laid_loop_example_pub_g03356_pub_quartz_ErrTriggerExpired)] }
def FnMacrosSaid : Prop := fnMacrosRow.holds Tryz.pinned (OpenSpec.ofChange fnMacrosSpec)

/-- ITS FALSE NEIGHBOUR: 'it returns false'. Refute it at one input. -/
def fnMacrosWrong : ChangeSpec := { name := "fnMacros", vars := ["loop.example/pub-g03356/pub/quartz.ErrIllegalArgument", "loop.example/pub-g03356/pub/quartz.ErrCronParse", "loop.example/pub-g03356/pub/quartz.ErrTriggerExpired"], fn := fun _ => fun
  | [d1, d2, d3, g1, g2, g3] => { results := [.lit (.bool false)], args := [d1, d2, d3], vars := [g1, g2, g3] }
  | _ => none }
def FnMacrosWrongFalsely : Prop := fnMacrosRow.holds Tryz.pinned (OpenSpec.ofChange fnMacrosWrong)

/-- 'laws.FnRefused': WHATEVER THE INPUT: true; the input reads as it did. -/
def fnRefusedSpec : ChangeSpec := { name := "fnRefused", vars := ["loop.example/pub-g03356/pub/quartz.ErrCronParse", "loop.example/pub-g03356/pub/quartz.ErrIllegalArgument", "loop.example/pub-g03356/pub/quartz.ErrTriggerExpired"], fn := fun _ => fun
  | [d1, d2, d3, g1, g2, g3] => { results := [.lit (.bool true)], args := [d1, d2, d3], vars := [g1, g2, g3] }
  | _ => none }
def fnRefusedRow : OpenClaim := { program := "ytmaffdhcmdhjfaagreatdoor", sum := "791175e6ca751751f031e48dde30a639023f2d0911750189e59c79b35f62e424", func := "loop.example/pub-g03356/laws.FnRefused", spec := "fnRefused", unfollowed := true, recurses := true, named := ["internal/strconv.uint64pow10", "math/bits.deBruijn32tab", "math/bits.deBruijn64tab", "loop.example/pub-g03356/pub/quartz.ErrCronParse", "strconv.ErrSyntax", "strconv.ErrRange", "loop.example/pub-g03356/pub/quartz.ErrIllegalArgument", "loop.example/pub-g03356/pub/quartz.ErrTriggerExpired"], ifaces := true, loops := true, apart := false, laid := [("math/bits.deBruijn32tab", laid_math_bits_deBruijn32tab), ("math/bits.deBruijn64tab", laid_math_bits_deBruijn64tab), ("internal/strconv.uint64pow10", laid_internal_strconv_uint64pow10), ("strconv.ErrRange", laid_strconv_ErrRange), ("strconv.ErrSyntax", laid_strconv_ErrSyntax), ("loop.example/pub-g03356/pub/quartz.ErrIllegalArgument", laid_loop_example_pub_g03356_pub_quartz_ErrIllegalArgument), ("loop.example/pub-g03356/pub/quartz.ErrCronParse", laid_loop_example_pub_g03356_pub_quartz_ErrCronParse), ("loop.example/pub-g03356/pub/quartz.ErrTriggerExpired", laid_loop_example_pub_g03356_pub_quartz_ErrTriggerExpired)] }
def FnRefusedSaid : Prop := fnRefusedRow.holds Tryz.pinned (OpenSpec.ofChange fnRefusedSpec)

/-- ITS FALSE NEIGHBOUR: 'it returns false'. Refute it at one input. -/
def fnRefusedWrong : ChangeSpec := { name := "fnRefused", vars := ["loop.example/pub-g03356/pub/quartz.ErrCronParse", "loop.example/pub-g03356/pub/quartz.ErrIllegalArgument", "loop.example/pub-g03356/pub/quartz.ErrTriggerExpired"], fn := fun _ => fun
  | [d1, d2, d3, g1, g2, g3] => { results := [.lit (.bool false)], args := [d1, d2, d3], vars := [g1, g2, g3] }
  | _ => none }
def FnRefusedWrongFalsely : Prop := fnRefusedRow.holds Tryz.pinned (OpenSpec.ofChange fnRefusedWrong)

/-- 'laws.FnFires': WHATEVER THE INPUT: true; the input reads as it did. -/
def fnFiresSpec : ChangeSpec := { name := "fnFires", vars := ["loop.example/pub-g03356/pub/quartz.ErrIllegalArgument", "loop.example/pub-g03356/pub/quartz.ErrCronParse", "loop.example/pub-g03356/pub/quartz.ErrTriggerExpired"], fn := fun _ => fun
  | [d1, d2, d3, d4, g1, g2, g3] => { results := [.lit (.bool true)], args := [d1, d2, d3, d4], vars := [g1, g2, g3] }
  | _ => none }
def fnFiresRow : OpenClaim := { program := "ytmaffdhcmdhjfaagreatdoor", sum := "791175e6ca751751f031e48dde30a639023f2d0911750189e59c79b35f62e424", func := "loop.example/pub-g03356/laws.FnFires", spec := "fnFires", unfollowed := true, recurses := true, named := ["internal/strconv.uint64pow10", "math/bits.deBruijn32tab", "math/bits.deBruijn64tab", "loop.example/pub-g03356/pub/quartz.ErrIllegalArgument", "loop.example/pub-g03356/pub/quartz.ErrCronParse", "strconv.ErrSyntax", "strconv.ErrRange", "loop.example/pub-g03356/pub/quartz.ErrTriggerExpired"], ifaces := true, loops := true, apart := false, laid := [("math/bits.deBruijn32tab", laid_math_bits_deBruijn32tab), ("math/bits.deBruijn64tab", laid_math_bits_deBruijn64tab), ("internal/strconv.uint64pow10", laid_internal_strconv_uint64pow10), ("strconv.ErrRange", laid_strconv_ErrRange), ("strconv.ErrSyntax", laid_strconv_ErrSyntax), ("loop.example/pub-g03356/pub/quartz.ErrIllegalArgument", laid_loop_example_pub_g03356_pub_quartz_ErrIllegalArgument), ("loop.example/pub-g03356/pub/quartz.ErrCronParse", laid_loop_example_pub_g03356_pub_quartz_ErrCronParse), ("loop.example/pub-g03356/pub/quartz.ErrTriggerExpired", laid_loop_example_pub_g03356_pub_quartz_ErrTriggerExpired)] }
def FnFiresSaid : Prop := fnFiresRow.holds Tryz.pinned (OpenSpec.ofChange fnFiresSpec)

/-- ITS FALSE NEIGHBOUR: 'it returns false'. Refute it at one input. -/
def fnFiresWrong : ChangeSpec := { name := "fnFires", vars := ["loop.example/pub-g03356/pub/quartz.ErrIllegalArgument", "loop.example/pub-g03356/pub/quartz.ErrCronParse", "loop.example/pub-g03356/pub/quartz.ErrTriggerExpired"], fn := fun _ => fun
  | [d1, d2, d3, d4, g1, g2, g3] => { results := [.lit (.bool false)], args := [d1, d2, d3, d4], vars := [g1, g2, g3] }
  | _ => none }
def FnFiresWrongFalsely : Prop := fnFiresRow.holds Tryz.pinned (OpenSpec.ofChange fnFiresWrong)

/- THE SECOND FORM. 'bulk': how many values and letters a reading holds, each counted each time it is reached (what is shared counts as often as it is met; a slice's spare places count too). A statement '..UptoSaid' is the law's where the arguments, and the package variables that the reading takes, are together of bulk at most 1048576: NARROWER than '..Said'. Prove '..Said' where nothing that the law and all that it calls make is longer than what came in: it says more and counts as full. Else prove '..UptoSaid'. A law counts once. -/
mutual
def uptoBulk {H : Type} : DataW H → Nat
  | .lit (.string bytes) => bytes.length + 1
  | .lit _ => 1
  | .nil => 1
  | .ptr d => uptoBulk d + 1
  | .slice elems spare => uptoBulkAll elems + uptoBulkAll spare + 1
  | .agg parts => uptoBulkAll parts + 1
  | .iface _ d => uptoBulk d + 1
  | .map entries => uptoBulkEntries entries + 1
  | .held _ => 1
def uptoBulkAll {H : Type} : List (DataW H) → Nat
  | [] => 0
  | d :: r => uptoBulk d + uptoBulkAll r
def uptoBulkEntries {H : Type} : List (Lit × DataW H) → Nat
  | [] => 0
  | x :: r => uptoBulkEntry x + uptoBulkEntries r
def uptoBulkEntry {H : Type} : Lit × DataW H → Nat
  | (.string bytes, d) => bytes.length + uptoBulk d + 1
  | (_, d) => uptoBulk d + 1
 end
def uptoSmall : (H : Type) → List (DataW H) → Bool := fun _ ds => decide (uptoBulkAll ds ≤ 1048576)
def OpenSpec.upto (s : _root_.Go.ChangeSpec) : _root_.Go.OpenSpec := { _root_.Go.OpenSpec.ofChange s with cond := some uptoSmall }

/-- 'laws.FnFields', WHERE WHAT IT READS IS OF BULK AT MOST 1048576: true; the input reads as it did. -/
def fnFieldsUptoRow : OpenClaim := { program := "ytmaffdhcmdhjfaagreatdoor", sum := "791175e6ca751751f031e48dde30a639023f2d0911750189e59c79b35f62e424", func := "loop.example/pub-g03356/laws.FnFields", spec := "fnFields", recurses := true, named := ["internal/strconv.uint64pow10", "math/bits.deBruijn32tab", "math/bits.deBruijn64tab", "loop.example/pub-g03356/pub/quartz.ErrCronParse", "strconv.ErrSyntax", "strconv.ErrRange"], ifaces := true, loops := true, apart := false, laid := [("math/bits.deBruijn32tab", laid_math_bits_deBruijn32tab), ("math/bits.deBruijn64tab", laid_math_bits_deBruijn64tab), ("internal/strconv.uint64pow10", laid_internal_strconv_uint64pow10), ("strconv.ErrRange", laid_strconv_ErrRange), ("strconv.ErrSyntax", laid_strconv_ErrSyntax), ("loop.example/pub-g03356/pub/quartz.ErrCronParse", laid_loop_example_pub_g03356_pub_quartz_ErrCronParse)], narrowed := true }
def FnFieldsUptoSaid : Prop := fnFieldsUptoRow.holds Tryz.pinned (OpenSpec.upto fnFieldsSpec)

/-- 'laws.FnTrimmed', WHERE WHAT IT READS IS OF BULK AT MOST 1048576: true; the input reads as it did. -/
def fnTrimmedUptoRow : OpenClaim := { program := "ytmaffdhcmdhjfaagreatdoor", sum := "791175e6ca751751f031e48dde30a639023f2d0911750189e59c79b35f62e424", func := "loop.example/pub-g03356/laws.FnTrimmed", spec := "fnTrimmed", recurses := true, named := ["internal/strconv.uint64pow10", "math/bits.deBruijn32tab", "math/bits.deBruijn64tab", "loop.example/pub-g03356/pub/quartz.ErrCronParse", "strconv.ErrSyntax", "strconv.ErrRange"], ifaces := true, loops := true, apart := false, laid := [("math/bits.deBruijn32tab", laid_math_bits_deBruijn32tab), ("math/bits.deBruijn64tab", laid_math_bits_deBruijn64tab), ("internal/strconv.uint64pow10", laid_internal_strconv_uint64pow10), ("strconv.ErrRange", laid_strconv_ErrRange), ("strconv.ErrSyntax", laid_strconv_ErrSyntax), ("loop.example/pub-g03356/pub/quartz.ErrCronParse", laid_loop_example_pub_g03356_pub_quartz_ErrCronParse)], narrowed := true }
def FnTrimmedUptoSaid : Prop := fnTrimmedUptoRow.holds Tryz.pinned (OpenSpec.upto fnTrimmedSpec)

/-- 'laws.FnDescribed', WHERE WHAT IT READS IS OF BULK AT MOST 1048576: true; the input reads as it did. -/
def fnDescribedUptoRow : OpenClaim := { program := "ytmaffdhcmdhjfaagreatdoor", sum := "791175e6ca751751f031e48dde30a639023f2d0911750189e59c79b35f62e424", func := "loop.example/pub-g03356/laws.FnDescribed", spec := "fnDescribed", recurses := true, named := ["internal/strconv.uint64pow10", "math/bits.deBruijn32tab", "math/bits.deBruijn64tab", "loop.example/pub-g03356/pub/quartz.ErrIllegalArgument", "loop.example/pub-g03356/pub/quartz.ErrCronParse", "strconv.ErrSyntax", "strconv.ErrRange"], ifaces := true, loops := true, apart := false, laid := [("math/bits.deBruijn32tab", laid_math_bits_deBruijn32tab), ("math/bits.deBruijn64tab", laid_math_bits_deBruijn64tab), ("internal/strconv.uint64pow10", laid_internal_strconv_uint64pow10), ("strconv.ErrRange", laid_strconv_ErrRange), ("strconv.ErrSyntax", laid_strconv_ErrSyntax), ("loop.example/pub-g03356/pub/quartz.ErrIllegalArgument", laid_loop_example_pub_g03356_pub_quartz_ErrIllegalArgument), ("loop.example/pub-g03356/pub/quartz.ErrCronParse", laid_loop_example_pub_g03356_pub_quartz_ErrCronParse)], narrowed := true }
def FnDescribedUptoSaid : Prop := fnDescribedUptoRow.holds Tryz.pinned (OpenSpec.upto fnDescribedSpec)

/-- 'laws.FnNext', WHERE WHAT IT READS IS OF BULK AT MOST 1048576: true; the input reads as it did. -/
def fnNextUptoRow : OpenClaim := { program := "ytmaffdhcmdhjfaagreatdoor", sum := "791175e6ca751751f031e48dde30a639023f2d0911750189e59c79b35f62e424", func := "loop.example/pub-g03356/laws.FnNext", spec := "fnNext", unfollowed := true, recurses := true, named := ["internal/strconv.uint64pow10", "math/bits.deBruijn32tab", "math/bits.deBruijn64tab", "loop.example/pub-g03356/pub/quartz.ErrIllegalArgument", "loop.example/pub-g03356/pub/quartz.ErrCronParse", "strconv.ErrSyntax", "strconv.ErrRange", "loop.example/pub-g03356/pub/quartz.ErrTriggerExpired"], ifaces := true, loops := true, apart := false, laid := [("math/bits.deBruijn32tab", laid_math_bits_deBruijn32tab), ("math/bits.deBruijn64tab", laid_math_bits_deBruijn64tab), ("internal/strconv.uint64pow10", laid_internal_strconv_uint64pow10), ("strconv.ErrRange", laid_strconv_ErrRange), ("strconv.ErrSyntax", laid_strconv_ErrSyntax), ("loop.example/pub-g03356/pub/quartz.ErrIllegalArgument", laid_loop_example_pub_g03356_pub_quartz_ErrIllegalArgument), ("loop.example/pub-g03356/pub/quartz.ErrCronParse", laid_loop_example_pub_g03356_pub_quartz_ErrCronParse), ("loop.example/pub-g03356/pub/quartz.ErrTriggerExpired", laid_loop_example_pub_g03356_pub_quartz_ErrTriggerExpired)], narrowed := true }
def FnNextUptoSaid : Prop := fnNextUptoRow.holds Tryz.pinned (OpenSpec.upto fnNextSpec)

/-- 'laws.FnPlaces', WHERE WHAT IT READS IS OF BULK AT MOST 1048576: true; the input reads as it did. -/
def fnPlacesUptoRow : OpenClaim := { program := "ytmaffdhcmdhjfaagreatdoor", sum := "791175e6ca751751f031e48dde30a639023f2d0911750189e59c79b35f62e424", func := "loop.example/pub-g03356/laws.FnPlaces", spec := "fnPlaces", unfollowed := true, recurses := true, named := ["internal/strconv.uint64pow10", "math/bits.deBruijn32tab", "math/bits.deBruijn64tab", "loop.example/pub-g03356/pub/quartz.ErrIllegalArgument", "loop.example/pub-g03356/pub/quartz.ErrCronParse", "strconv.ErrSyntax", "strconv.ErrRange", "loop.example/pub-g03356/pub/quartz.ErrTriggerExpired"], ifaces := true, loops := true, apart := false, laid := [("math/bits.deBruijn32tab", laid_math_bits_deBruijn32tab), ("math/bits.deBruijn64tab", laid_math_bits_deBruijn64tab), ("internal/strconv.uint64pow10", laid_internal_strconv_uint64pow10), ("strconv.ErrRange", laid_strconv_ErrRange), ("strconv.ErrSyntax", laid_strconv_ErrSyntax), ("loop.example/pub-g03356/pub/quartz.ErrIllegalArgument", laid_loop_example_pub_g03356_pub_quartz_ErrIllegalArgument), ("loop.example/pub-g03356/pub/quartz.ErrCronParse", laid_loop_example_pub_g03356_pub_quartz_ErrCronParse), ("loop.example/pub-g03356/pub/quartz.ErrTriggerExpired", laid_loop_example_pub_g03356_pub_quartz_ErrTriggerExpired)], narrowed := true }
def FnPlacesUptoSaid : Prop := fnPlacesUptoRow.holds Tryz.pinned (OpenSpec.upto fnPlacesSpec)

/-- 'laws.FnTaken', WHERE WHAT IT READS IS OF BULK AT MOST 1048576: true; the input reads as it did. -/
def fnTakenUptoRow : OpenClaim := { program := "ytmaffdhcmdhjfaagreatdoor", sum := "791175e6ca751751f031e48dde30a639023f2d0911750189e59c79b35f62e424", func := "loop.example/pub-g03356/laws.FnTaken", spec := "fnTaken", unfollowed := true, recurses := true, named := ["internal/strconv.uint64pow10", "math/bits.deBruijn32tab", "math/bits.deBruijn64tab", "loop.example/pub-g03356/pub/quartz.ErrIllegalArgument", "loop.example/pub-g03356/pub/quartz.ErrCronParse", "strconv.ErrSyntax", "strconv.ErrRange", "loop.example/pub-g03356/pub/quartz.ErrTriggerExpired"], ifaces := true, loops := true, apart := false, laid := [("math/bits.deBruijn32tab", laid_math_bits_deBruijn32tab), ("math/bits.deBruijn64tab", laid_math_bits_deBruijn64tab), ("internal/strconv.uint64pow10", laid_internal_strconv_uint64pow10), ("strconv.ErrRange", laid_strconv_ErrRange), ("strconv.ErrSyntax", laid_strconv_ErrSyntax), ("loop.example/pub-g03356/pub/quartz.ErrIllegalArgument", laid_loop_example_pub_g03356_pub_quartz_ErrIllegalArgument), ("loop.example/pub-g03356/pub/quartz.ErrCronParse", laid_loop_example_pub_g03356_pub_quartz_ErrCronParse), ("loop.example/pub-g03356/pub/quartz.ErrTriggerExpired", laid_loop_example_pub_g03356_pub_quartz_ErrTriggerExpired)], narrowed := true }
def FnTakenUptoSaid : Prop := fnTakenUptoRow.holds Tryz.pinned (OpenSpec.upto fnTakenSpec)

/-- 'laws.FnMacros', WHERE WHAT IT READS IS OF BULK AT MOST 1048576: true; the input reads as it did. -/
def fnMacrosUptoRow : OpenClaim := { program := "ytmaffdhcmdhjfaagreatdoor", sum := "791175e6ca751751f031e48dde30a639023f2d0911750189e59c79b35f62e424", func := "loop.example/pub-g03356/laws.FnMacros", spec := "fnMacros", unfollowed := true, recurses := true, named := ["internal/strconv.uint64pow10", "math/bits.deBruijn32tab", "math/bits.deBruijn64tab", "loop.example/pub-g03356/pub/quartz.ErrIllegalArgument", "loop.example/pub-g03356/pub/quartz.ErrCronParse", "strconv.ErrSyntax", "strconv.ErrRange", "loop.example/pub-g03356/pub/quartz.ErrTriggerExpired"], ifaces := true, apart := false, laid := [("math/bits.deBruijn32tab", laid_math_bits_deBruijn32tab), ("math/bits.deBruijn64tab", laid_math_bits_deBruijn64tab), ("internal/strconv.uint64pow10", laid_internal_strconv_uint64pow10), ("strconv.ErrRange", laid_strconv_ErrRange), ("strconv.ErrSyntax", laid_strconv_ErrSyntax), ("loop.example/pub-g03356/pub/quartz.ErrIllegalArgument", laid_loop_example_pub_g03356_pub_quartz_ErrIllegalArgument), ("loop.example/pub-g03356/pub/quartz.ErrCronParse", laid_loop_example_pub_g03356_pub_quartz_ErrCronParse), ("loop.example/pub-g03356/pub/quartz.ErrTriggerExpired", laid_loop_example_pub_g03356_pub_quartz_ErrTriggerExpired)], narrowed := true }
def FnMacrosUptoSaid : Prop := fnMacrosUptoRow.holds Tryz.pinned (OpenSpec.upto fnMacrosSpec)

/-- 'laws.FnRefused', WHERE WHAT IT READS IS OF BULK AT MOST 1048576: true; the input reads as it did. -/
def fnRefusedUptoRow : OpenClaim := { program := "ytmaffdhcmdhjfaagreatdoor", sum := "791175e6ca751751f031e48dde30a639023f2d0911750189e59c79b35f62e424", func := "loop.example/pub-g03356/laws.FnRefused", spec := "fnRefused", unfollowed := true, recurses := true, named := ["internal/strconv.uint64pow10", "math/bits.deBruijn32tab", "math/bits.deBruijn64tab", "loop.example/pub-g03356/pub/quartz.ErrCronParse", "strconv.ErrSyntax", "strconv.ErrRange", "loop.example/pub-g03356/pub/quartz.ErrIllegalArgument", "loop.example/pub-g03356/pub/quartz.ErrTriggerExpired"], ifaces := true, loops := true, apart := false, laid := [("math/bits.deBruijn32tab", laid_math_bits_deBruijn32tab), ("math/bits.deBruijn64tab", laid_math_bits_deBruijn64tab), ("internal/strconv.uint64pow10", laid_internal_strconv_uint64pow10), ("strconv.ErrRange", laid_strconv_ErrRange), ("strconv.ErrSyntax", laid_strconv_ErrSyntax), ("loop.example/pub-g03356/pub/quartz.ErrIllegalArgument", laid_loop_example_pub_g03356_pub_quartz_ErrIllegalArgument), ("loop.example/pub-g03356/pub/quartz.ErrCronParse", laid_loop_example_pub_g03356_pub_quartz_ErrCronParse), ("loop.example/pub-g03356/pub/quartz.ErrTriggerExpired", laid_loop_example_pub_g03356_pub_quartz_ErrTriggerExpired)], narrowed := true }
def FnRefusedUptoSaid : Prop := fnRefusedUptoRow.holds Tryz.pinned (OpenSpec.upto fnRefusedSpec)

/-- 'laws.FnFires', WHERE WHAT IT READS IS OF BULK AT MOST 1048576: true; the input reads as it did. -/
def fnFiresUptoRow : OpenClaim := { program := "ytmaffdhcmdhjfaagreatdoor", sum := "791175e6ca751751f031e48dde30a639023f2d0911750189e59c79b35f62e424", func := "loop.example/pub-g03356/laws.FnFires", spec := "fnFires", unfollowed := true, recurses := true, named := ["internal/strconv.uint64pow10", "math/bits.deBruijn32tab", "math/bits.deBruijn64tab", "loop.example/pub-g03356/pub/quartz.ErrIllegalArgument", "loop.example/pub-g03356/pub/quartz.ErrCronParse", "strconv.ErrSyntax", "strconv.ErrRange", "loop.example/pub-g03356/pub/quartz.ErrTriggerExpired"], ifaces := true, loops := true, apart := false, laid := [("math/bits.deBruijn32tab", laid_math_bits_deBruijn32tab), ("math/bits.deBruijn64tab", laid_math_bits_deBruijn64tab), ("internal/strconv.uint64pow10", laid_internal_strconv_uint64pow10), ("strconv.ErrRange", laid_strconv_ErrRange), ("strconv.ErrSyntax", laid_strconv_ErrSyntax), ("loop.example/pub-g03356/pub/quartz.ErrIllegalArgument", laid_loop_example_pub_g03356_pub_quartz_ErrIllegalArgument), ("loop.example/pub-g03356/pub/quartz.ErrCronParse", laid_loop_example_pub_g03356_pub_quartz_ErrCronParse), ("loop.example/pub-g03356/pub/quartz.ErrTriggerExpired", laid_loop_example_pub_g03356_pub_quartz_ErrTriggerExpired)], narrowed := true }
def FnFiresUptoSaid : Prop := fnFiresUptoRow.holds Tryz.pinned (OpenSpec.upto fnFiresSpec)

end Rows
end Go.Proofs.YtmaffdhcmdhjfaaGreatDoor
