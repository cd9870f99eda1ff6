/-
  NARROWER THAN 'FOR EVERY INPUT', by the rows' own cells (each row's printed sentence says how): FnLeft: ifaces, laid · FnSprint: ifaces, laid · FnRedact: ifaces, laid · FnJoin: ifaces, laid · FnStripped: ifaces, laid · FnEscape: ifaces, laid · FnStrip: ifaces, laid · FnSprintf: ifaces, laid · FnBuild: ifaces, laid · FnHidden: ifaces, laid.
  DERIVED. THE GIVEN ROWS OF THIS SEAT. 10 by the template 'for every input the law returns true; each argument reads behind the call as it read before'; 0 by the template 'total and deterministic' (their statements: YtlmcglaajmjanaaGreatDoorTotals.lean).
  GIVEN WITH THE SEED: the statements are not yours to turn. If you find one false, say at which input.
  Laid BY PROGRAM, IN A SANDBOX (cutbox-rows.mjs): the forced cells as the released guide's own fill.sh prints them over the translation 59df937bbc4ba7ae… (all of the seat's roots in one cut). By AI agents, Wed Nov 11 2026. No macro, syntax, notation, axiom, sorry.
-/
import Derived.Test.YtlmcglaajmjanaaGreatDoorChecked
import GoSem.PinnedTables
import GoSem.Claim
import GoSem.ClaimJoined
import GoSem.ClaimMapViews
import Derived.JoinedTies
import Derived.KernelRfl
namespace Go.Proofs.YtlmcglaajmjanaaGreatDoor
/- THE CELL 'sum', in the pinned program and in every row, IS THE sha256 OF THE DUMP (.gsa) THAT YtlmcglaajmjanaaGreatDoorProg.lean LOADS. Nothing in Lean hashes anything: it is a label: what it is worth is what the hold of that sum in a sandbox is worth. -/
noncomputable def Tryz.pinned : Pinned := { name := "ytlmcglaajmjanaagreatdoor", sum := "59df937bbc4ba7ae29956b0f4b7c9f1f167ed42d9b7c04f2941291772f6f8c25", checked := Tryz.checked }
namespace Rows
def none {H : Type} : Left H := { results := [], args := [] }

/- WHAT THE LISTED PACKAGE-LEVEL VARIABLES READ AS WHEN THE CALL BEGINS. Each datum BY PROGRAM (the guide's laid-datum.mjs) off the statement by which the dump's own 'gosem.cut.vars' lays the variable. In a bare row this is a premise. The card (YtlmcglaajmjanaaGreatDoorCards.lean) ties it to the program's text. -/
def laid_unicode_utf8_acceptRanges {H : Type} : DataW H := .agg [.agg [.lit (.int .u8 128), .lit (.int .u8 191)], .agg [.lit (.int .u8 160), .lit (.int .u8 191)], .agg [.lit (.int .u8 128), .lit (.int .u8 159)], .agg [.lit (.int .u8 144), .lit (.int .u8 191)], .agg [.lit (.int .u8 128), .lit (.int .u8 143)], .agg [.lit (.int .u8 0), .lit (.int .u8 0)], .agg [.lit (.int .u8 0), .lit (.int .u8 0)], .agg [.lit (.int .u8 0), .lit (.int .u8 0)], .agg [.lit (.int .u8 0), .lit (.int .u8 0)], .agg [.lit (.int .u8 0), .lit (.int .u8 0)], .agg [.lit (.int .u8 0), .lit (.int .u8 0)], .agg [.lit (.int .u8 0), .lit (.int .u8 0)], .agg [.lit (.int .u8 0), .lit (.int .u8 0)], .agg [.lit (.int .u8 0), .lit (.int .u8 0)], .agg [.lit (.int .u8 0), .lit (.int .u8 0)], .agg [.lit (.int .u8 0), .lit (.int .u8 0)]]
def laid_loop_example_pub_g03077_pub_redactbuffer_ErrTooLarge {H : Type} : DataW H := .iface "*errors.errorString" (.ptr (.agg [.lit (.string [114, 101, 100, 97, 99, 116, 46, 66, 117, 102, 102, 101, 114, 58, 32, 116, 111, 111, 32, 108, 97, 114, 103, 101])]))
/-- One of Go's own tables, pinned by name: the form's constant. -/
def laid_strconv_isGraphic : DataW Unit := Go.Pinned.isGraphic
/-- One of Go's own tables, pinned by name: the form's constant. -/
def laid_strconv_isNotPrint16 : DataW Unit := Go.Pinned.isNotPrint16
/-- One of Go's own tables, pinned by name: the form's constant. -/
def laid_strconv_isNotPrint32 : DataW Unit := Go.Pinned.isNotPrint32
/-- One of Go's own tables, pinned by name: the form's constant. -/
def laid_strconv_isPrint16 : DataW Unit := Go.Pinned.isPrint16
/-- One of Go's own tables, pinned by name: the form's constant. -/
def laid_strconv_isPrint32 : DataW Unit := Go.Pinned.isPrint32
/-- One of Go's own tables, pinned by name: the form's constant. -/
def laid_unicode_utf8_first : DataW Unit := Go.Pinned.utf8First

/-- 'laws.FnLeft': WHATEVER THE INPUT: true; the input reads as it did. -/
def fnLeftSpec : ChangeSpec := { name := "fnLeft", vars := ["loop.example/pub-g03077/pub/redactbuffer.ErrTooLarge"], fn := fun _ => fun
  | [d, g1] => { results := [.lit (.bool true)], args := [d], vars := [g1] }
  | _ => none }
def fnLeftRow : OpenClaim := { program := "ytlmcglaajmjanaagreatdoor", sum := "59df937bbc4ba7ae29956b0f4b7c9f1f167ed42d9b7c04f2941291772f6f8c25", func := "loop.example/pub-g03077/laws.FnLeft", spec := "fnLeft", unfollowed := true, recurses := true, named := ["unicode/utf8.first", "unicode/utf8.acceptRanges", "loop.example/pub-g03077/pub/redactbuffer.ErrTooLarge", "strconv.isPrint16", "strconv.isNotPrint16", "strconv.isPrint32", "strconv.isNotPrint32", "strconv.isGraphic"], ifaces := true, apart := false, laid := [("unicode/utf8.acceptRanges", laid_unicode_utf8_acceptRanges), ("loop.example/pub-g03077/pub/redactbuffer.ErrTooLarge", laid_loop_example_pub_g03077_pub_redactbuffer_ErrTooLarge), ("strconv.isGraphic", laid_strconv_isGraphic), ("strconv.isNotPrint16", laid_strconv_isNotPrint16), ("strconv.isNotPrint32", laid_strconv_isNotPrint32), ("strconv.isPrint16", laid_strconv_isPrint16), ("strconv.isPrint32", laid_strconv_isPrint32), ("unicode/utf8.first", laid_unicode_utf8_first)] }
def FnLeftSaid : Prop := fnLeftRow.holds Tryz.pinned (OpenSpec.ofChange fnLeftSpec)

/-- ITS FALSE NEIGHBOUR: 'it returns false'. Refute it at one input. -/
def fnLeftWrong : ChangeSpec := { name := "fnLeft", vars := ["loop.example/pub-g03077/pub/redactbuffer.ErrTooLarge"], fn := fun _ => fun
  | [d, g1] => { results := [.lit (.bool false)], args := [d], vars := [g1] }
  | _ => none }
def FnLeftWrongFalsely : Prop := fnLeftRow.holds Tryz.pinned (OpenSpec.ofChange fnLeftWrong)

/-- 'laws.FnSprint': WHATEVER THE INPUT: true; the input reads as it did. -/
def fnSprintSpec : ChangeSpec := { name := "fnSprint", vars := ["loop.example/pub-g03077/pub/redactbuffer.ErrTooLarge"], fn := fun _ => fun
  | [d, g1] => { results := [.lit (.bool true)], args := [d], vars := [g1] }
  | _ => none }
def fnSprintRow : OpenClaim := { program := "ytlmcglaajmjanaagreatdoor", sum := "59df937bbc4ba7ae29956b0f4b7c9f1f167ed42d9b7c04f2941291772f6f8c25", func := "loop.example/pub-g03077/laws.FnSprint", spec := "fnSprint", unfollowed := true, recurses := true, named := ["unicode/utf8.first", "unicode/utf8.acceptRanges", "loop.example/pub-g03077/pub/redactbuffer.ErrTooLarge", "strconv.isPrint16", "strconv.isNotPrint16", "strconv.isPrint32", "strconv.isNotPrint32", "strconv.isGraphic"], ifaces := true, apart := false, laid := [("unicode/utf8.acceptRanges", laid_unicode_utf8_acceptRanges), ("loop.example/pub-g03077/pub/redactbuffer.ErrTooLarge", laid_loop_example_pub_g03077_pub_redactbuffer_ErrTooLarge), ("strconv.isGraphic", laid_strconv_isGraphic), ("strconv.isNotPrint16", laid_strconv_isNotPrint16), ("strconv.isNotPrint32", laid_strconv_isNotPrint32), ("strconv.isPrint16", laid_strconv_isPrint16), ("strconv.isPrint32", laid_strconv_isPrint32), ("unicode/utf8.first", laid_unicode_utf8_first)] }
def FnSprintSaid : Prop := fnSprintRow.holds Tryz.pinned (OpenSpec.ofChange fnSprintSpec)

/-- ITS FALSE NEIGHBOUR: 'it returns false'. Refute it at one input. -/
def fnSprintWrong : ChangeSpec := { name := "fnSprint", vars := ["loop.example/pub-g03077/pub/redactbuffer.ErrTooLarge"], fn := fun _ => fun
  | [d, g1] => { results := [.lit (.bool false)], args := [d], vars := [g1] }
  | _ => none }
def FnSprintWrongFalsely : Prop := fnSprintRow.holds Tryz.pinned (OpenSpec.ofChange fnSprintWrong)

/-- 'laws.FnRedact': WHATEVER THE INPUT: true; the input reads as it did. -/
def fnRedactSpec : ChangeSpec := { name := "fnRedact", vars := ["loop.example/pub-g03077/pub/redactbuffer.ErrTooLarge"], fn := fun _ => fun
  | [d, g1] => { results := [.lit (.bool true)], args := [d], vars := [g1] }
  | _ => none }
def fnRedactRow : OpenClaim := { program := "ytlmcglaajmjanaagreatdoor", sum := "59df937bbc4ba7ae29956b0f4b7c9f1f167ed42d9b7c04f2941291772f6f8c25", func := "loop.example/pub-g03077/laws.FnRedact", spec := "fnRedact", unfollowed := true, recurses := true, named := ["unicode/utf8.first", "unicode/utf8.acceptRanges", "loop.example/pub-g03077/pub/redactbuffer.ErrTooLarge", "strconv.isPrint16", "strconv.isNotPrint16", "strconv.isPrint32", "strconv.isNotPrint32", "strconv.isGraphic"], ifaces := true, apart := false, laid := [("unicode/utf8.acceptRanges", laid_unicode_utf8_acceptRanges), ("loop.example/pub-g03077/pub/redactbuffer.ErrTooLarge", laid_loop_example_pub_g03077_pub_redactbuffer_ErrTooLarge), ("strconv.isGraphic", laid_strconv_isGraphic), ("strconv.isNotPrint16", laid_strconv_isNotPrint16), ("strconv.isNotPrint32", laid_strconv_isNotPrint32), ("strconv.isPrint16", laid_strconv_isPrint16), ("strconv.isPrint32", laid_strconv_isPrint32), ("unicode/utf8.first", laid_unicode_utf8_first)] }
def FnRedactSaid : Prop := fnRedactRow.holds Tryz.pinned (OpenSpec.ofChange fnRedactSpec)

/-- ITS FALSE NEIGHBOUR: 'it returns false'. Refute it at one input. -/
def fnRedactWrong : ChangeSpec := { name := "fnRedact", vars := ["loop.example/pub-g03077/pub/redactbuffer.ErrTooLarge"], fn := fun _ => fun
  | [d, g1] => { results := [.lit (.bool false)], args := [d], vars := [g1] }
  | _ => none }
def FnRedactWrongFalsely : Prop := fnRedactRow.holds Tryz.pinned (OpenSpec.ofChange fnRedactWrong)

/-- 'laws.FnJoin': WHATEVER THE INPUT: true; the input reads as it did. -/
def fnJoinSpec : ChangeSpec := { name := "fnJoin", vars := ["loop.example/pub-g03077/pub/redactbuffer.ErrTooLarge"], fn := fun _ => fun
  | [d1, d2, g1] => { results := [.lit (.bool true)], args := [d1, d2], vars := [g1] }
  | _ => none }
def fnJoinRow : OpenClaim := { program := "ytlmcglaajmjanaagreatdoor", sum := "59df937bbc4ba7ae29956b0f4b7c9f1f167ed42d9b7c04f2941291772f6f8c25", func := "loop.example/pub-g03077/laws.FnJoin", spec := "fnJoin", unfollowed := true, recurses := true, named := ["unicode/utf8.first", "unicode/utf8.acceptRanges", "loop.example/pub-g03077/pub/redactbuffer.ErrTooLarge", "strconv.isPrint16", "strconv.isNotPrint16", "strconv.isPrint32", "strconv.isNotPrint32", "strconv.isGraphic"], ifaces := true, apart := false, laid := [("unicode/utf8.acceptRanges", laid_unicode_utf8_acceptRanges), ("loop.example/pub-g03077/pub/redactbuffer.ErrTooLarge", laid_loop_example_pub_g03077_pub_redactbuffer_ErrTooLarge), ("strconv.isGraphic", laid_strconv_isGraphic), ("strconv.isNotPrint16", laid_strconv_isNotPrint16), ("strconv.isNotPrint32", laid_strconv_isNotPrint32), ("strconv.isPrint16", laid_strconv_isPrint16), ("strconv.isPrint32", laid_strconv_isPrint32), ("unicode/utf8.first", laid_unicode_utf8_first)] }
def FnJoinSaid : Prop := fnJoinRow.holds Tryz.pinned (OpenSpec.ofChange fnJoinSpec)

/-- ITS FALSE NEIGHBOUR: 'it returns false'. Refute it at one input. -/
def fnJoinWrong : ChangeSpec := { name := "fnJoin", vars := ["loop.example/pub-g03077/pub/redactbuffer.ErrTooLarge"], fn := fun _ => fun
  | [d1, d2, g1] => { results := [.lit (.bool false)], args := [d1, d2], vars := [g1] }
  | _ => none }
def FnJoinWrongFalsely : Prop := fnJoinRow.holds Tryz.pinned (OpenSpec.ofChange fnJoinWrong)

/-- 'laws.FnStripped': WHATEVER THE INPUT: true; the input reads as it did. -/
def fnStrippedSpec : ChangeSpec := { name := "fnStripped", vars := ["loop.example/pub-g03077/pub/redactbuffer.ErrTooLarge"], fn := fun _ => fun
  | [d, g1] => { results := [.lit (.bool true)], args := [d], vars := [g1] }
  | _ => none }
def fnStrippedRow : OpenClaim := { program := "ytlmcglaajmjanaagreatdoor", sum := "59df937bbc4ba7ae29956b0f4b7c9f1f167ed42d9b7c04f2941291772f6f8c25", func := "loop.example/pub-g03077/laws.FnStripped", spec := "fnStripped", inPlace := ["internal/bytealg.IndexByteString", "internal/bytealg.IndexByte"], unfollowed := true, recurses := true, named := ["unicode/utf8.first", "unicode/utf8.acceptRanges", "loop.example/pub-g03077/pub/redactbuffer.ErrTooLarge", "strconv.isPrint16", "strconv.isNotPrint16", "strconv.isPrint32", "strconv.isNotPrint32", "strconv.isGraphic"], ifaces := true, apart := false, laid := [("unicode/utf8.acceptRanges", laid_unicode_utf8_acceptRanges), ("loop.example/pub-g03077/pub/redactbuffer.ErrTooLarge", laid_loop_example_pub_g03077_pub_redactbuffer_ErrTooLarge), ("strconv.isGraphic", laid_strconv_isGraphic), ("strconv.isNotPrint16", laid_strconv_isNotPrint16), ("strconv.isNotPrint32", laid_strconv_isNotPrint32), ("strconv.isPrint16", laid_strconv_isPrint16), ("strconv.isPrint32", laid_strconv_isPrint32), ("unicode/utf8.first", laid_unicode_utf8_first)] }
def FnStrippedSaid : Prop := fnStrippedRow.holds Tryz.pinned (OpenSpec.ofChange fnStrippedSpec)

/-- ITS FALSE NEIGHBOUR: 'it returns false'. Refute it at one input. -/
def fnStrippedWrong : ChangeSpec := { name := "fnStripped", vars := ["loop.example/pub-g03077/pub/redactbuffer.ErrTooLarge"], fn := fun _ => fun
  | [d, g1] => { results := [.lit (.bool false)], args := [d], vars := [g1] }
  | _ => none }
def FnStrippedWrongFalsely : Prop := fnStrippedRow.holds Tryz.pinned (OpenSpec.ofChange fnStrippedWrong)

/-- 'laws.FnEscape': WHATEVER THE INPUT: true; the input reads as it did. -/
def fnEscapeSpec : ChangeSpec := { name := "fnEscape", vars := ["loop.example/pub-g03077/pub/redactbuffer.ErrTooLarge"], fn := fun _ => fun
  | [d, g1] => { results := [.lit (.bool true)], args := [d], vars := [g1] }
  | _ => none }
def fnEscapeRow : OpenClaim := { program := "ytlmcglaajmjanaagreatdoor", sum := "59df937bbc4ba7ae29956b0f4b7c9f1f167ed42d9b7c04f2941291772f6f8c25", func := "loop.example/pub-g03077/laws.FnEscape", spec := "fnEscape", inPlace := ["internal/bytealg.IndexByte"], unfollowed := true, recurses := true, named := ["unicode/utf8.first", "unicode/utf8.acceptRanges", "loop.example/pub-g03077/pub/redactbuffer.ErrTooLarge", "strconv.isPrint16", "strconv.isNotPrint16", "strconv.isPrint32", "strconv.isNotPrint32", "strconv.isGraphic"], ifaces := true, apart := false, laid := [("unicode/utf8.acceptRanges", laid_unicode_utf8_acceptRanges), ("loop.example/pub-g03077/pub/redactbuffer.ErrTooLarge", laid_loop_example_pub_g03077_pub_redactbuffer_ErrTooLarge), ("strconv.isGraphic", laid_strconv_isGraphic), ("strconv.isNotPrint16", laid_strconv_isNotPrint16), ("strconv.isNotPrint32", laid_strconv_isNotPrint32), ("strconv.isPrint16", laid_strconv_isPrint16), ("strconv.isPrint32", laid_strconv_isPrint32), ("unicode/utf8.first", laid_unicode_utf8_first)] }
def FnEscapeSaid : Prop := fnEscapeRow.holds Tryz.pinned (OpenSpec.ofChange fnEscapeSpec)

/-- ITS FALSE NEIGHBOUR: 'it returns false'. Refute it at one input. -/
def fnEscapeWrong : ChangeSpec := { name := "fnEscape", vars := ["loop.example/pub-g03077/pub/redactbuffer.ErrTooLarge"], fn := fun _ => fun
  | [d, g1] => { results := [.lit (.bool false)], args := [d], vars := [g1] }
  | _ => none }
def FnEscapeWrongFalsely : Prop := fnEscapeRow.holds Tryz.pinned (OpenSpec.ofChange fnEscapeWrong)

/-- 'laws.FnStrip': WHATEVER THE INPUT: true; the input reads as it did. -/
def fnStripSpec : ChangeSpec := { name := "fnStrip", vars := ["loop.example/pub-g03077/pub/redactbuffer.ErrTooLarge"], fn := fun _ => fun
  | [d, g1] => { results := [.lit (.bool true)], args := [d], vars := [g1] }
  | _ => none }
def fnStripRow : OpenClaim := { program := "ytlmcglaajmjanaagreatdoor", sum := "59df937bbc4ba7ae29956b0f4b7c9f1f167ed42d9b7c04f2941291772f6f8c25", func := "loop.example/pub-g03077/laws.FnStrip", spec := "fnStrip", inPlace := ["internal/bytealg.IndexByteString", "internal/bytealg.IndexByte"], unfollowed := true, recurses := true, named := ["unicode/utf8.first", "unicode/utf8.acceptRanges", "loop.example/pub-g03077/pub/redactbuffer.ErrTooLarge", "strconv.isPrint16", "strconv.isNotPrint16", "strconv.isPrint32", "strconv.isNotPrint32", "strconv.isGraphic"], ifaces := true, apart := false, laid := [("unicode/utf8.acceptRanges", laid_unicode_utf8_acceptRanges), ("loop.example/pub-g03077/pub/redactbuffer.ErrTooLarge", laid_loop_example_pub_g03077_pub_redactbuffer_ErrTooLarge), ("strconv.isGraphic", laid_strconv_isGraphic), ("strconv.isNotPrint16", laid_strconv_isNotPrint16), ("strconv.isNotPrint32", laid_strconv_isNotPrint32), ("strconv.isPrint16", laid_strconv_isPrint16), ("strconv.isPrint32", laid_strconv_isPrint32), ("unicode/utf8.first", laid_unicode_utf8_first)] }
def FnStripSaid : Prop := fnStripRow.holds Tryz.pinned (OpenSpec.ofChange fnStripSpec)

/-- ITS FALSE NEIGHBOUR: 'it returns false'. Refute it at one input. -/
def fnStripWrong : ChangeSpec := { name := "fnStrip", vars := ["loop.example/pub-g03077/pub/redactbuffer.ErrTooLarge"], fn := fun _ => fun
  | [d, g1] => { results := [.lit (.bool false)], args := [d], vars := [g1] }
  | _ => none }
def FnStripWrongFalsely : Prop := fnStripRow.holds Tryz.pinned (OpenSpec.ofChange fnStripWrong)

/-- 'laws.FnSprintf': WHATEVER THE INPUT: true; the input reads as it did. -/
def fnSprintfSpec : ChangeSpec := { name := "fnSprintf", vars := ["loop.example/pub-g03077/pub/redactbuffer.ErrTooLarge"], fn := fun _ => fun
  | [d1, d2, d3, g1] => { results := [.lit (.bool true)], args := [d1, d2, d3], vars := [g1] }
  | _ => none }
def fnSprintfRow : OpenClaim := { program := "ytlmcglaajmjanaagreatdoor", sum := "59df937bbc4ba7ae29956b0f4b7c9f1f167ed42d9b7c04f2941291772f6f8c25", func := "loop.example/pub-g03077/laws.FnSprintf", spec := "fnSprintf", inPlace := ["internal/bytealg.IndexByteString"], unfollowed := true, recurses := true, named := ["unicode/utf8.first", "unicode/utf8.acceptRanges", "loop.example/pub-g03077/pub/redactbuffer.ErrTooLarge", "strconv.isPrint16", "strconv.isNotPrint16", "strconv.isPrint32", "strconv.isNotPrint32", "strconv.isGraphic"], ifaces := true, apart := false, laid := [("unicode/utf8.acceptRanges", laid_unicode_utf8_acceptRanges), ("loop.example/pub-g03077/pub/redactbuffer.ErrTooLarge", laid_loop_example_pub_g03077_pub_redactbuffer_ErrTooLarge), ("strconv.isGraphic", laid_strconv_isGraphic), ("strconv.isNotPrint16", laid_strconv_isNotPrint16), ("strconv.isNotPrint32", laid_strconv_isNotPrint32), ("strconv.isPrint16", laid_strconv_isPrint16), ("strconv.isPrint32", laid_strconv_isPrint32), ("unicode/utf8.first", laid_unicode_utf8_first)] }
def FnSprintfSaid : Prop := fnSprintfRow.holds Tryz.pinned (OpenSpec.ofChange fnSprintfSpec)

/-- ITS FALSE NEIGHBOUR: 'it returns false'. Refute it at one input. -/
def fnSprintfWrong : ChangeSpec := { name := "fnSprintf", vars := ["loop.example/pub-g03077/pub/redactbuffer.ErrTooLarge"], fn := fun _ => fun
  | [d1, d2, d3, g1] => { results := [.lit (.bool false)], args := [d1, d2, d3], vars := [g1] }
  | _ => none }
def FnSprintfWrongFalsely : Prop := fnSprintfRow.holds Tryz.pinned (OpenSpec.ofChange fnSprintfWrong)

/-- 'laws.FnBuild': WHATEVER THE INPUT: true; the input reads as it did. -/
def fnBuildSpec : ChangeSpec := { name := "fnBuild", vars := ["loop.example/pub-g03077/pub/redactbuffer.ErrTooLarge"], fn := fun _ => fun
  | [d, g1] => { results := [.lit (.bool true)], args := [d], vars := [g1] }
  | _ => none }
def fnBuildRow : OpenClaim := { program := "ytlmcglaajmjanaagreatdoor", sum := "59df937bbc4ba7ae29956b0f4b7c9f1f167ed42d9b7c04f2941291772f6f8c25", func := "loop.example/pub-g03077/laws.FnBuild", spec := "fnBuild", unfollowed := true, recurses := true, named := ["unicode/utf8.first", "unicode/utf8.acceptRanges", "loop.example/pub-g03077/pub/redactbuffer.ErrTooLarge", "strconv.isPrint16", "strconv.isNotPrint16", "strconv.isPrint32", "strconv.isNotPrint32", "strconv.isGraphic"], ifaces := true, apart := false, laid := [("unicode/utf8.acceptRanges", laid_unicode_utf8_acceptRanges), ("loop.example/pub-g03077/pub/redactbuffer.ErrTooLarge", laid_loop_example_pub_g03077_pub_redactbuffer_ErrTooLarge), ("strconv.isGraphic", laid_strconv_isGraphic), ("strconv.isNotPrint16", laid_strconv_isNotPrint16), ("strconv.isNotPrint32", laid_strconv_isNotPrint32), ("strconv.isPrint16", laid_strconv_isPrint16), ("strconv.isPrint32", laid_strconv_isPrint32), ("unicode/utf8.first", laid_unicode_utf8_first)] }
def FnBuildSaid : Prop := fnBuildRow.holds Tryz.pinned (OpenSpec.ofChange fnBuildSpec)

/-- ITS FALSE NEIGHBOUR: 'it returns false'. Refute it at one input. -/
def fnBuildWrong : ChangeSpec := { name := "fnBuild", vars := ["loop.example/pub-g03077/pub/redactbuffer.ErrTooLarge"], fn := fun _ => fun
  | [d, g1] => { results := [.lit (.bool false)], args := [d], vars := [g1] }
  | _ => none }
def FnBuildWrongFalsely : Prop := fnBuildRow.holds Tryz.pinned (OpenSpec.ofChange fnBuildWrong)

/-- 'laws.FnHidden': WHATEVER THE INPUT: true; the input reads as it did. -/
def fnHiddenSpec : ChangeSpec := { name := "fnHidden", vars := ["loop.example/pub-g03077/pub/redactbuffer.ErrTooLarge"], fn := fun _ => fun
  | [d1, d2, d3, d4, g1] => { results := [.lit (.bool true)], args := [d1, d2, d3, d4], vars := [g1] }
  | _ => none }
def fnHiddenRow : OpenClaim := { program := "ytlmcglaajmjanaagreatdoor", sum := "59df937bbc4ba7ae29956b0f4b7c9f1f167ed42d9b7c04f2941291772f6f8c25", func := "loop.example/pub-g03077/laws.FnHidden", spec := "fnHidden", inPlace := ["internal/bytealg.IndexByteString"], unfollowed := true, recurses := true, named := ["unicode/utf8.first", "unicode/utf8.acceptRanges", "loop.example/pub-g03077/pub/redactbuffer.ErrTooLarge", "strconv.isPrint16", "strconv.isNotPrint16", "strconv.isPrint32", "strconv.isNotPrint32", "strconv.isGraphic"], ifaces := true, apart := false, laid := [("unicode/utf8.acceptRanges", laid_unicode_utf8_acceptRanges), ("loop.example/pub-g03077/pub/redactbuffer.ErrTooLarge", laid_loop_example_pub_g03077_pub_redactbuffer_ErrTooLarge), ("strconv.isGraphic", laid_strconv_isGraphic), ("strconv.isNotPrint16", laid_strconv_isNotPrint16), ("strconv.isNotPrint32", laid_strconv_isNotPrint32), ("strconv.isPrint16", laid_strconv_isPrint16), ("strconv.isPrint32", laid_strconv_isPrint32), ("unicode/utf8.first", laid_unicode_utf8_first)] }
def FnHiddenSaid : Prop := fnHiddenRow.holds Tryz.pinned (OpenSpec.ofChange fnHiddenSpec)

/-- ITS FALSE NEIGHBOUR: 'it returns false'. Refute it at one input. -/
def fnHiddenWrong : ChangeSpec := { name := "fnHidden", vars := ["loop.example/pub-g03077/pub/redactbuffer.ErrTooLarge"], fn := fun _ => fun
  | [d1, d2, d3, d4, g1] => { results := [.lit (.bool false)], args := [d1, d2, d3, d4], vars := [g1] }
  | _ => none }
def FnHiddenWrongFalsely : Prop := fnHiddenRow.holds Tryz.pinned (OpenSpec.ofChange fnHiddenWrong)

/- THE SECOND FORM. 'bulk': how many values and letters a reading holds, each counted each time it is reached (what is shared counts as often as it is met; a slice's spare places count too). A statement '..UptoSaid' is the law's where the arguments, and the package variables that the reading takes, are together of bulk at most 1048576: NARROWER than '..Said'. Prove '..Said' where nothing that the law and all that it calls make is longer than what came in: it says more and counts as full. Else prove '..UptoSaid'. A law counts once. -/
mutual
def uptoBulk {H : Type} : DataW H → Nat
  | .lit (.string bytes) => bytes.length + 1
  | .lit _ => 1
  | .nil => 1
  | .ptr d => uptoBulk d + 1
  | .slice elems spare => uptoBulkAll elems + uptoBulkAll spare + 1
  | .agg parts => uptoBulkAll parts + 1
  | .iface _ d => uptoBulk d + 1
  | .map entries => uptoBulkEntries entries + 1
  | .held _ => 1
def uptoBulkAll {H : Type} : List (DataW H) → Nat
  | [] => 0
  | d :: r => uptoBulk d + uptoBulkAll r
def uptoBulkEntries {H : Type} : List (Lit × DataW H) → Nat
  | [] => 0
  | x :: r => uptoBulkEntry x + uptoBulkEntries r
def uptoBulkEntry {H : Type} : Lit × DataW H → Nat
  | (.string bytes, d) => bytes.length + uptoBulk d + 1
  | (_, d) => uptoBulk d + 1
 end
def uptoSmall : (H : Type) → List (DataW H) → Bool := fun _ ds => decide (uptoBulkAll ds ≤ 1048576)
def OpenSpec.upto (s : _root_.Go.ChangeSpec) : _root_.Go.OpenSpec := { _root_.Go.OpenSpec.ofChange s with cond := some uptoSmall }

/-- 'laws.FnLeft', WHERE WHAT IT READS IS OF BULK AT MOST 1048576: true; the input reads as it did. -/
def fnLeftUptoRow : OpenClaim := { program := "ytlmcglaajmjanaagreatdoor", sum := "59df937bbc4ba7ae29956b0f4b7c9f1f167ed42d9b7c04f2941291772f6f8c25", func := "loop.example/pub-g03077/laws.FnLeft", spec := "fnLeft", unfollowed := true, recurses := true, named := ["unicode/utf8.first", "unicode/utf8.acceptRanges", "loop.example/pub-g03077/pub/redactbuffer.ErrTooLarge", "strconv.isPrint16", "strconv.isNotPrint16", "strconv.isPrint32", "strconv.isNotPrint32", "strconv.isGraphic"], ifaces := true, apart := false, laid := [("unicode/utf8.acceptRanges", laid_unicode_utf8_acceptRanges), ("loop.example/pub-g03077/pub/redactbuffer.ErrTooLarge", laid_loop_example_pub_g03077_pub_redactbuffer_ErrTooLarge), ("strconv.isGraphic", laid_strconv_isGraphic), ("strconv.isNotPrint16", laid_strconv_isNotPrint16), ("strconv.isNotPrint32", laid_strconv_isNotPrint32), ("strconv.isPrint16", laid_strconv_isPrint16), ("strconv.isPrint32", laid_strconv_isPrint32), ("unicode/utf8.first", laid_unicode_utf8_first)], narrowed := true }
def FnLeftUptoSaid : Prop := fnLeftUptoRow.holds Tryz.pinned (OpenSpec.upto fnLeftSpec)

/-- 'laws.FnSprint', WHERE WHAT IT READS IS OF BULK AT MOST 1048576: true; the input reads as it did. -/
def fnSprintUptoRow : OpenClaim := { program := "ytlmcglaajmjanaagreatdoor", sum := "59df937bbc4ba7ae29956b0f4b7c9f1f167ed42d9b7c04f2941291772f6f8c25", func := "loop.example/pub-g03077/laws.FnSprint", spec := "fnSprint", unfollowed := true, recurses := true, named := ["unicode/utf8.first", "unicode/utf8.acceptRanges", "loop.example/pub-g03077/pub/redactbuffer.ErrTooLarge", "strconv.isPrint16", "strconv.isNotPrint16", "strconv.isPrint32", "strconv.isNotPrint32", "strconv.isGraphic"], ifaces := true, apart := false, laid := [("unicode/utf8.acceptRanges", laid_unicode_utf8_acceptRanges), ("loop.example/pub-g03077/pub/redactbuffer.ErrTooLarge", laid_loop_example_pub_g03077_pub_redactbuffer_ErrTooLarge), ("strconv.isGraphic", laid_strconv_isGraphic), ("strconv.isNotPrint16", laid_strconv_isNotPrint16), ("strconv.isNotPrint32", laid_strconv_isNotPrint32), ("strconv.isPrint16", laid_strconv_isPrint16), ("strconv.isPrint32", laid_strconv_isPrint32), ("unicode/utf8.first", laid_unicode_utf8_first)], narrowed := true }
def FnSprintUptoSaid : Prop := fnSprintUptoRow.holds Tryz.pinned (OpenSpec.upto fnSprintSpec)

/-- 'laws.FnRedact', WHERE WHAT IT READS IS OF BULK AT MOST 1048576: true; the input reads as it did. -/
def fnRedactUptoRow : OpenClaim := { program := "ytlmcglaajmjanaagreatdoor", sum := "59df937bbc4ba7ae29956b0f4b7c9f1f167ed42d9b7c04f2941291772f6f8c25", func := "loop.example/pub-g03077/laws.FnRedact", spec := "fnRedact", unfollowed := true, recurses := true, named := ["unicode/utf8.first", "unicode/utf8.acceptRanges", "loop.example/pub-g03077/pub/redactbuffer.ErrTooLarge", "strconv.isPrint16", "strconv.isNotPrint16", "strconv.isPrint32", "strconv.isNotPrint32", "strconv.isGraphic"], ifaces := true, apart := false, laid := [("unicode/utf8.acceptRanges", laid_unicode_utf8_acceptRanges), ("loop.example/pub-g03077/pub/redactbuffer.ErrTooLarge", laid_loop_example_pub_g03077_pub_redactbuffer_ErrTooLarge), ("strconv.isGraphic", laid_strconv_isGraphic), ("strconv.isNotPrint16", laid_strconv_isNotPrint16), ("strconv.isNotPrint32", laid_strconv_isNotPrint32), ("strconv.isPrint16", laid_strconv_isPrint16), ("strconv.isPrint32", laid_strconv_isPrint32), ("unicode/utf8.first", laid_unicode_utf8_first)], narrowed := true }
def FnRedactUptoSaid : Prop := fnRedactUptoRow.holds Tryz.pinned (OpenSpec.upto fnRedactSpec)

/-- 'laws.FnJoin', WHERE WHAT IT READS IS OF BULK AT MOST 1048576: true; the input reads as it did. -/
def fnJoinUptoRow : OpenClaim := { program := "ytlmcglaajmjanaagreatdoor", sum := "59df937bbc4ba7ae29956b0f4b7c9f1f167ed42d9b7c04f2941291772f6f8c25", func := "loop.example/pub-g03077/laws.FnJoin", spec := "fnJoin", unfollowed := true, recurses := true, named := ["unicode/utf8.first", "unicode/utf8.acceptRanges", "loop.example/pub-g03077/pub/redactbuffer.ErrTooLarge", "strconv.isPrint16", "strconv.isNotPrint16", "strconv.isPrint32", "strconv.isNotPrint32", "strconv.isGraphic"], ifaces := true, apart := false, laid := [("unicode/utf8.acceptRanges", laid_unicode_utf8_acceptRanges), ("loop.example/pub-g03077/pub/redactbuffer.ErrTooLarge", laid_loop_example_pub_g03077_pub_redactbuffer_ErrTooLarge), ("strconv.isGraphic", laid_strconv_isGraphic), ("strconv.isNotPrint16", laid_strconv_isNotPrint16), ("strconv.isNotPrint32", laid_strconv_isNotPrint32), ("strconv.isPrint16", laid_strconv_isPrint16), ("strconv.isPrint32", laid_strconv_isPrint32), ("unicode/utf8.first", laid_unicode_utf8_first)], narrowed := true }
def FnJoinUptoSaid : Prop := fnJoinUptoRow.holds Tryz.pinned (OpenSpec.upto fnJoinSpec)

/-- 'laws.FnStripped', WHERE WHAT IT READS IS OF BULK AT MOST 1048576: true; the input reads as it did. -/
def fnStrippedUptoRow : OpenClaim := { program := "ytlmcglaajmjanaagreatdoor", sum := "59df937bbc4ba7ae29956b0f4b7c9f1f167ed42d9b7c04f2941291772f6f8c25", func := "loop.example/pub-g03077/laws.FnStripped", spec := "fnStripped", inPlace := ["internal/bytealg.IndexByteString", "internal/bytealg.IndexByte"], unfollowed := true, recurses := true, named := ["unicode/utf8.first", "unicode/utf8.acceptRanges", "loop.example/pub-g03077/pub/redactbuffer.ErrTooLarge", "strconv.isPrint16", "strconv.isNotPrint16", "strconv.isPrint32", "strconv.isNotPrint32", "strconv.isGraphic"], ifaces := true, apart := false, laid := [("unicode/utf8.acceptRanges", laid_unicode_utf8_acceptRanges), ("loop.example/pub-g03077/pub/redactbuffer.ErrTooLarge", laid_loop_example_pub_g03077_pub_redactbuffer_ErrTooLarge), ("strconv.isGraphic", laid_strconv_isGraphic), ("strconv.isNotPrint16", laid_strconv_isNotPrint16), ("strconv.isNotPrint32", laid_strconv_isNotPrint32), ("strconv.isPrint16", laid_strconv_isPrint16), ("strconv.isPrint32", laid_strconv_isPrint32), ("unicode/utf8.first", laid_unicode_utf8_first)], narrowed := true }
def FnStrippedUptoSaid : Prop := fnStrippedUptoRow.holds Tryz.pinned (OpenSpec.upto fnStrippedSpec)

/-- 'laws.FnEscape', WHERE WHAT IT READS IS OF BULK AT MOST 1048576: true; the input reads as it did. -/
def fnEscapeUptoRow : OpenClaim := { program := "ytlmcglaajmjanaagreatdoor", sum := "59df937bbc4ba7ae29956b0f4b7c9f1f167ed42d9b7c04f2941291772f6f8c25", func := "loop.example/pub-g03077/laws.FnEscape", spec := "fnEscape", inPlace := ["internal/bytealg.IndexByte"], unfollowed := true, recurses := true, named := ["unicode/utf8.first", "unicode/utf8.acceptRanges", "loop.example/pub-g03077/pub/redactbuffer.ErrTooLarge", "strconv.isPrint16", "strconv.isNotPrint16", "strconv.isPrint32", "strconv.isNotPrint32", "strconv.isGraphic"], ifaces := true, apart := false, laid := [("unicode/utf8.acceptRanges", laid_unicode_utf8_acceptRanges), ("loop.example/pub-g03077/pub/redactbuffer.ErrTooLarge", laid_loop_example_pub_g03077_pub_redactbuffer_ErrTooLarge), ("strconv.isGraphic", laid_strconv_isGraphic), ("strconv.isNotPrint16", laid_strconv_isNotPrint16), ("strconv.isNotPrint32", laid_strconv_isNotPrint32), ("strconv.isPrint16", laid_strconv_isPrint16), ("strconv.isPrint32", laid_strconv_isPrint32), ("unicode/utf8.first", laid_unicode_utf8_first)], narrowed := true }
def FnEscapeUptoSaid : Prop := fnEscapeUptoRow.holds Tryz.pinned (OpenSpec.upto fnEscapeSpec)

/-- 'laws.FnStrip', WHERE WHAT IT READS IS OF BULK AT MOST 1048576: true; the input reads as it did. -/
def fnStripUptoRow : OpenClaim := { program := "ytlmcglaajmjanaagreatdoor", sum := "59df937bbc4ba7ae29956b0f4b7c9f1f167ed42d9b7c04f2941291772f6f8c25", func := "loop.example/pub-g03077/laws.FnStrip", spec := "fnStrip", inPlace := ["internal/bytealg.IndexByteString", "internal/bytealg.IndexByte"], unfollowed := true, recurses := true, named := ["unicode/utf8.first", "unicode/utf8.acceptRanges", "loop.example/pub-g03077/pub/redactbuffer.ErrTooLarge", "strconv.isPrint16", "strconv.isNotPrint16", "strconv.isPrint32", "strconv.isNotPrint32", "strconv.isGraphic"], ifaces := true, apart := false, laid := [("unicode/utf8.acceptRanges", laid_unicode_utf8_acceptRanges), ("loop.example/pub-g03077/pub/redactbuffer.ErrTooLarge", laid_loop_example_pub_g03077_pub_redactbuffer_ErrTooLarge), ("strconv.isGraphic", laid_strconv_isGraphic), ("strconv.isNotPrint16", laid_strconv_isNotPrint16), ("strconv.isNotPrint32", laid_strconv_isNotPrint32), ("strconv.isPrint16", laid_strconv_isPrint16), ("strconv.isPrint32", laid_strconv_isPrint32), ("unicode/utf8.first", laid_unicode_utf8_first)], narrowed := true }
def FnStripUptoSaid : Prop := fnStripUptoRow.holds Tryz.pinned (OpenSpec.upto fnStripSpec)

/-- 'laws.FnSprintf', WHERE WHAT IT READS IS OF BULK AT MOST 1048576: true; the input reads as it did. -/
def fnSprintfUptoRow : OpenClaim := { program := "ytlmcglaajmjanaagreatdoor", sum := "59df937bbc4ba7ae29956b0f4b7c9f1f167ed42d9b7c04f2941291772f6f8c25", func := "loop.example/pub-g03077/laws.FnSprintf", spec := "fnSprintf", inPlace := ["internal/bytealg.IndexByteString"], unfollowed := true, recurses := true, named := ["unicode/utf8.first", "unicode/utf8.acceptRanges", "loop.example/pub-g03077/pub/redactbuffer.ErrTooLarge", "strconv.isPrint16", "strconv.isNotPrint16", "strconv.isPrint32", "strconv.isNotPrint32", "strconv.isGraphic"], ifaces := true, apart := false, laid := [("unicode/utf8.acceptRanges", laid_unicode_utf8_acceptRanges), ("loop.example/pub-g03077/pub/redactbuffer.ErrTooLarge", laid_loop_example_pub_g03077_pub_redactbuffer_ErrTooLarge), ("strconv.isGraphic", laid_strconv_isGraphic), ("strconv.isNotPrint16", laid_strconv_isNotPrint16), ("strconv.isNotPrint32", laid_strconv_isNotPrint32), ("strconv.isPrint16", laid_strconv_isPrint16), ("strconv.isPrint32", laid_strconv_isPrint32), ("unicode/utf8.first", laid_unicode_utf8_first)], narrowed := true }
def FnSprintfUptoSaid : Prop := fnSprintfUptoRow.holds Tryz.pinned (OpenSpec.upto fnSprintfSpec)

/-- 'laws.FnBuild', WHERE WHAT IT READS IS OF BULK AT MOST 1048576: true; the input reads as it did. -/
def fnBuildUptoRow : OpenClaim := { program := "ytlmcglaajmjanaagreatdoor", sum := "59df937bbc4ba7ae29956b0f4b7c9f1f167ed42d9b7c04f2941291772f6f8c25", func := "loop.example/pub-g03077/laws.FnBuild", spec := "fnBuild", unfollowed := true, recurses := true, named := ["unicode/utf8.first", "unicode/utf8.acceptRanges", "loop.example/pub-g03077/pub/redactbuffer.ErrTooLarge", "strconv.isPrint16", "strconv.isNotPrint16", "strconv.isPrint32", "strconv.isNotPrint32", "strconv.isGraphic"], ifaces := true, apart := false, laid := [("unicode/utf8.acceptRanges", laid_unicode_utf8_acceptRanges), ("loop.example/pub-g03077/pub/redactbuffer.ErrTooLarge", laid_loop_example_pub_g03077_pub_redactbuffer_ErrTooLarge), ("strconv.isGraphic", laid_strconv_isGraphic), ("strconv.isNotPrint16", laid_strconv_isNotPrint16), ("strconv.isNotPrint32", laid_strconv_isNotPrint32), ("strconv.isPrint16", laid_strconv_isPrint16), ("strconv.isPrint32", laid_strconv_isPrint32), ("unicode/utf8.first", laid_unicode_utf8_first)], narrowed := true }
def FnBuildUptoSaid : Prop := fnBuildUptoRow.holds Tryz.pinned (OpenSpec.upto fnBuildSpec)

/-- 'laws.FnHidden', WHERE WHAT IT READS IS OF BULK AT MOST 1048576: true; the input reads as it did. -/
def fnHiddenUptoRow : OpenClaim := { program := "ytlmcglaajmjanaagreatdoor", sum := "59df937bbc4ba7ae29956b0f4b7c9f1f167ed42d9b7c04f2941291772f6f8c25", func := "loop.example/pub-g03077/laws.FnHidden", spec := "fnHidden", inPlace := ["internal/bytealg.IndexByteString"], unfollowed := true, recurses := true, named := ["unicode/utf8.first", "unicode/utf8.acceptRanges", "loop.example/pub-g03077/pub/redactbuffer.ErrTooLarge", "strconv.isPrint16", "strconv.isNotPrint16", "strconv.isPrint32", "strconv.isNotPrint32", "strconv.isGraphic"], ifaces := true, apart := false, laid := [("unicode/utf8.acceptRanges", laid_unicode_utf8_acceptRanges), ("loop.example/pub-g03077/pub/redactbuffer.ErrTooLarge", laid_loop_example_pub_g03077_pub_redactbuffer_ErrTooLarge), ("strconv.isGraphic", laid_strconv_isGraphic), ("strconv.isNotPrint16", laid_strconv_isNotPrint16), ("strconv.isNotPrint32", laid_strconv_isNotPrint32), ("strconv.isPrint16", laid_strconv_isPrint16), ("strconv.isPrint32", laid_strconv_isPrint32), ("unicode/utf8.first", laid_unicode_utf8_first)], narrowed := true }
def FnHiddenUptoSaid : Prop := fnHiddenUptoRow.holds Tryz.pinned (OpenSpec.upto fnHiddenSpec)

end Rows
end Go.Proofs.YtlmcglaajmjanaaGreatDoor
