/-
  NARROWER THAN 'FOR EVERY INPUT', by the rows' own cells (each row's printed sentence says how): FnBare: laid · FnText: laid · FnComment: laid · FnKept: laid · FnRCData: laid · FnTemplateLiteral: laid · FnPattern: laid · FnString: laid · FnSlash: laid · FnScriptType: laid.
  DERIVED. THE GIVEN ROWS OF THIS SEAT. 10 by the template 'for every input the law returns true; each argument reads behind the call as it read before'; 0 by the template 'total and deterministic' (their statements: YteheelcppgjeaaaDoorTotals.lean).
  GIVEN WITH THE SEED: the statements are not yours to turn. If you find one false, say at which input.
  Laid BY PROGRAM, IN A SANDBOX (cutbox-rows.mjs): the forced cells as the released guide's own fill.sh prints them over the translation 7211e552112d39c1… (all of the seat's roots in one cut). By AI agents, Wed Nov 11 2026. No macro, syntax, notation, axiom, sorry.
-/
import Derived.Test.YteheelcppgjeaaaDoorChecked
import GoSem.PinnedTables
import GoSem.Claim
import GoSem.ClaimJoined
import GoSem.ClaimMapViews
import Derived.JoinedTies
import Derived.KernelRfl
namespace Go.Proofs.YteheelcppgjeaaaDoor
/- THE CELL 'sum', in the pinned program and in every row, IS THE sha256 OF THE DUMP (.gsa) THAT YteheelcppgjeaaaDoorProg.lean LOADS. Nothing in Lean hashes anything: it is a label: what it is worth is what the hold of that sum in a sandbox is worth. -/
noncomputable def Tryd.pinned : Pinned := { name := "yteheelcppgjeaaadoor", sum := "7211e552112d39c17cb9d9b456da4aff4b01b4d258987ab34f50cdbfe0c9dfef", checked := Tryd.checked }
namespace Rows
def none {H : Type} : Left H := { results := [], args := [] }

/- WHAT THE LISTED PACKAGE-LEVEL VARIABLES READ AS WHEN THE CALL BEGINS. Each datum BY PROGRAM (the guide's laid-datum.mjs) off the statement by which the dump's own 'gosem.cut.vars' lays the variable. In a bare row this is a premise. The card (YteheelcppgjeaaaDoorCards.lean) ties it to the program's text. -/
def laid_math_bits_deBruijn32tab {H : Type} : DataW H := .agg [.lit (.int .u8 0), .lit (.int .u8 1), .lit (.int .u8 28), .lit (.int .u8 2), .lit (.int .u8 29), .lit (.int .u8 14), .lit (.int .u8 24), .lit (.int .u8 3), .lit (.int .u8 30), .lit (.int .u8 22), .lit (.int .u8 20), .lit (.int .u8 15), .lit (.int .u8 25), .lit (.int .u8 17), .lit (.int .u8 4), .lit (.int .u8 8), .lit (.int .u8 31), .lit (.int .u8 27), .lit (.int .u8 13), .lit (.int .u8 23), .lit (.int .u8 21), .lit (.int .u8 19), .lit (.int .u8 16), .lit (.int .u8 7), .lit (.int .u8 26), .lit (.int .u8 12), .lit (.int .u8 18), .lit (.int .u8 6), .lit (.int .u8 11), .lit (.int .u8 5), .lit (.int .u8 10), .lit (.int .u8 9)]
def laid_math_bits_deBruijn64tab {H : Type} : DataW H := .agg [.lit (.int .u8 0), .lit (.int .u8 1), .lit (.int .u8 56), .lit (.int .u8 2), .lit (.int .u8 57), .lit (.int .u8 49), .lit (.int .u8 28), .lit (.int .u8 3), .lit (.int .u8 61), .lit (.int .u8 58), .lit (.int .u8 42), .lit (.int .u8 50), .lit (.int .u8 38), .lit (.int .u8 29), .lit (.int .u8 17), .lit (.int .u8 4), .lit (.int .u8 62), .lit (.int .u8 47), .lit (.int .u8 59), .lit (.int .u8 36), .lit (.int .u8 45), .lit (.int .u8 43), .lit (.int .u8 51), .lit (.int .u8 22), .lit (.int .u8 53), .lit (.int .u8 39), .lit (.int .u8 33), .lit (.int .u8 30), .lit (.int .u8 24), .lit (.int .u8 18), .lit (.int .u8 12), .lit (.int .u8 5), .lit (.int .u8 63), .lit (.int .u8 55), .lit (.int .u8 48), .lit (.int .u8 27), .lit (.int .u8 60), .lit (.int .u8 41), .lit (.int .u8 37), .lit (.int .u8 16), .lit (.int .u8 46), .lit (.int .u8 35), .lit (.int .u8 44), .lit (.int .u8 21), .lit (.int .u8 52), .lit (.int .u8 32), .lit (.int .u8 23), .lit (.int .u8 11), .lit (.int .u8 54), .lit (.int .u8 26), .lit (.int .u8 40), .lit (.int .u8 15), .lit (.int .u8 34), .lit (.int .u8 20), .lit (.int .u8 31), .lit (.int .u8 10), .lit (.int .u8 25), .lit (.int .u8 14), .lit (.int .u8 19), .lit (.int .u8 9), .lit (.int .u8 13), .lit (.int .u8 8), .lit (.int .u8 7), .lit (.int .u8 6)]
def laid_internal_strconv_uint64pow10 {H : Type} : DataW H := .agg [.lit (.int .u64 1), .lit (.int .u64 10), .lit (.int .u64 100), .lit (.int .u64 1000), .lit (.int .u64 10000), .lit (.int .u64 100000), .lit (.int .u64 1000000), .lit (.int .u64 10000000), .lit (.int .u64 100000000), .lit (.int .u64 1000000000), .lit (.int .u64 10000000000), .lit (.int .u64 100000000000), .lit (.int .u64 1000000000000), .lit (.int .u64 10000000000000), .lit (.int .u64 100000000000000), .lit (.int .u64 1000000000000000), .lit (.int .u64 10000000000000000), .lit (.int .u64 100000000000000000), .lit (.int .u64 1000000000000000000), .lit (.int .u64 10000000000000000000)]
def laid_unicode_utf8_acceptRanges {H : Type} : DataW H := .agg [.agg [.lit (.int .u8 128), .lit (.int .u8 191)], .agg [.lit (.int .u8 160), .lit (.int .u8 191)], .agg [.lit (.int .u8 128), .lit (.int .u8 159)], .agg [.lit (.int .u8 144), .lit (.int .u8 191)], .agg [.lit (.int .u8 128), .lit (.int .u8 143)], .agg [.lit (.int .u8 0), .lit (.int .u8 0)], .agg [.lit (.int .u8 0), .lit (.int .u8 0)], .agg [.lit (.int .u8 0), .lit (.int .u8 0)], .agg [.lit (.int .u8 0), .lit (.int .u8 0)], .agg [.lit (.int .u8 0), .lit (.int .u8 0)], .agg [.lit (.int .u8 0), .lit (.int .u8 0)], .agg [.lit (.int .u8 0), .lit (.int .u8 0)], .agg [.lit (.int .u8 0), .lit (.int .u8 0)], .agg [.lit (.int .u8 0), .lit (.int .u8 0)], .agg [.lit (.int .u8 0), .lit (.int .u8 0)], .agg [.lit (.int .u8 0), .lit (.int .u8 0)]]
/-- One of Go's own tables, pinned by name: the form's constant. -/
def laid_unicode_utf8_first : DataW Unit := Go.Pinned.utf8First
def laid_htmlescapers_pub_htmltemplate_lowUnicodeReplacementTable {H : Type} : DataW H := .agg [.lit (.string [92, 117, 48, 48, 48, 48]), .lit (.string [92, 117, 48, 48, 48, 49]), .lit (.string [92, 117, 48, 48, 48, 50]), .lit (.string [92, 117, 48, 48, 48, 51]), .lit (.string [92, 117, 48, 48, 48, 52]), .lit (.string [92, 117, 48, 48, 48, 53]), .lit (.string [92, 117, 48, 48, 48, 54]), .lit (.string [92, 117, 48, 48, 48, 55]), .lit (.string [92, 117, 48, 48, 48, 56]), .lit (.string [92, 116]), .lit (.string [92, 110]), .lit (.string [92, 117, 48, 48, 48, 98]), .lit (.string [92, 102]), .lit (.string [92, 114]), .lit (.string [92, 117, 48, 48, 48, 101]), .lit (.string [92, 117, 48, 48, 48, 102]), .lit (.string [92, 117, 48, 48, 49, 48]), .lit (.string [92, 117, 48, 48, 49, 49]), .lit (.string [92, 117, 48, 48, 49, 50]), .lit (.string [92, 117, 48, 48, 49, 51]), .lit (.string [92, 117, 48, 48, 49, 52]), .lit (.string [92, 117, 48, 48, 49, 53]), .lit (.string [92, 117, 48, 48, 49, 54]), .lit (.string [92, 117, 48, 48, 49, 55]), .lit (.string [92, 117, 48, 48, 49, 56]), .lit (.string [92, 117, 48, 48, 49, 57]), .lit (.string [92, 117, 48, 48, 49, 97]), .lit (.string [92, 117, 48, 48, 49, 98]), .lit (.string [92, 117, 48, 48, 49, 99]), .lit (.string [92, 117, 48, 48, 49, 100]), .lit (.string [92, 117, 48, 48, 49, 101]), .lit (.string [92, 117, 48, 48, 49, 102])]
def laid_unicode_White_Space {H : Type} : DataW H := .ptr (.agg [.slice [.agg [.lit (.int .u16 9), .lit (.int .u16 13), .lit (.int .u16 1)], .agg [.lit (.int .u16 32), .lit (.int .u16 133), .lit (.int .u16 101)], .agg [.lit (.int .u16 160), .lit (.int .u16 5760), .lit (.int .u16 5600)], .agg [.lit (.int .u16 8192), .lit (.int .u16 8202), .lit (.int .u16 1)], .agg [.lit (.int .u16 8232), .lit (.int .u16 8233), .lit (.int .u16 1)], .agg [.lit (.int .u16 8239), .lit (.int .u16 8287), .lit (.int .u16 48)], .agg [.lit (.int .u16 12288), .lit (.int .u16 12288), .lit (.int .u16 1)]] [], .nil, .lit (.int .i64 2)])
def laid_strings_asciiSpace {H : Type} : DataW H := .agg [.lit (.int .u8 0), .lit (.int .u8 0), .lit (.int .u8 0), .lit (.int .u8 0), .lit (.int .u8 0), .lit (.int .u8 0), .lit (.int .u8 0), .lit (.int .u8 0), .lit (.int .u8 0), .lit (.int .u8 1), .lit (.int .u8 1), .lit (.int .u8 1), .lit (.int .u8 1), .lit (.int .u8 1), .lit (.int .u8 0), .lit (.int .u8 0), .lit (.int .u8 0), .lit (.int .u8 0), .lit (.int .u8 0), .lit (.int .u8 0), .lit (.int .u8 0), .lit (.int .u8 0), .lit (.int .u8 0), .lit (.int .u8 0), .lit (.int .u8 0), .lit (.int .u8 0), .lit (.int .u8 0), .lit (.int .u8 0), .lit (.int .u8 0), .lit (.int .u8 0), .lit (.int .u8 0), .lit (.int .u8 0), .lit (.int .u8 1), .lit (.int .u8 0), .lit (.int .u8 0), .lit (.int .u8 0), .lit (.int .u8 0), .lit (.int .u8 0), .lit (.int .u8 0), .lit (.int .u8 0), .lit (.int .u8 0), .lit (.int .u8 0), .lit (.int .u8 0), .lit (.int .u8 0), .lit (.int .u8 0), .lit (.int .u8 0), .lit (.int .u8 0), .lit (.int .u8 0), .lit (.int .u8 0), .lit (.int .u8 0), .lit (.int .u8 0), .lit (.int .u8 0), .lit (.int .u8 0), .lit (.int .u8 0), .lit (.int .u8 0), .lit (.int .u8 0), .lit (.int .u8 0), .lit (.int .u8 0), .lit (.int .u8 0), .lit (.int .u8 0), .lit (.int .u8 0), .lit (.int .u8 0), .lit (.int .u8 0), .lit (.int .u8 0), .lit (.int .u8 0), .lit (.int .u8 0), .lit (.int .u8 0), .lit (.int .u8 0), .lit (.int .u8 0), .lit (.int .u8 0), .lit (.int .u8 0), .lit (.int .u8 0), .lit (.int .u8 0), .lit (.int .u8 0), .lit (.int .u8 0), .lit (.int .u8 0), .lit (.int .u8 0), .lit (.int .u8 0), .lit (.int .u8 0), .lit (.int .u8 0), .lit (.int .u8 0), .lit (.int .u8 0), .lit (.int .u8 0), .lit (.int .u8 0), .lit (.int .u8 0), .lit (.int .u8 0), .lit (.int .u8 0), .lit (.int .u8 0), .lit (.int .u8 0), .lit (.int .u8 0), .lit (.int .u8 0), .lit (.int .u8 0), .lit (.int .u8 0), .lit (.int .u8 0), .lit (.int .u8 0), .lit (.int .u8 0), .lit (.int .u8 0), .lit (.int .u8 0), .lit (.int .u8 0), .lit (.int .u8 0), .lit (.int .u8 0), .lit (.int .u8 0), .lit (.int .u8 0), .lit (.int .u8 0), .lit (.int .u8 0), .lit (.int .u8 0), .lit (.int .u8 0), .lit (.int .u8 0), .lit (.int .u8 0), .lit (.int .u8 0), .lit (.int .u8 0), .lit (.int .u8 0), .lit (.int .u8 0), .lit (.int .u8 0), .lit (.int .u8 0), .lit (.int .u8 0), .lit (.int .u8 0), .lit (.int .u8 0), .lit (.int .u8 0), .lit (.int .u8 0), .lit (.int .u8 0), .lit (.int .u8 0), .lit (.int .u8 0), .lit (.int .u8 0), .lit (.int .u8 0), .lit (.int .u8 0), .lit (.int .u8 0), .lit (.int .u8 0), .lit (.int .u8 0), .lit (.int .u8 0), .lit (.int .u8 0), .lit (.int .u8 0), .lit (.int .u8 0), .lit (.int .u8 0), .lit (.int .u8 0), .lit (.int .u8 0), .lit (.int .u8 0), .lit (.int .u8 0), .lit (.int .u8 0), .lit (.int .u8 0), .lit (.int .u8 0), .lit (.int .u8 0), .lit (.int .u8 0), .lit (.int .u8 0), .lit (.int .u8 0), .lit (.int .u8 0), .lit (.int .u8 0), .lit (.int .u8 0), .lit (.int .u8 0), .lit (.int .u8 0), .lit (.int .u8 0), .lit (.int .u8 0), .lit (.int .u8 0), .lit (.int .u8 0), .lit (.int .u8 0), .lit (.int .u8 0), .lit (.int .u8 0), .lit (.int .u8 0), .lit (.int .u8 0), .lit (.int .u8 0), .lit (.int .u8 0), .lit (.int .u8 0), .lit (.int .u8 0), .lit (.int .u8 0), .lit (.int .u8 0), .lit (.int .u8 0), .lit (.int .u8 0), .lit (.int .u8 0), .lit (.int .u8 0), .lit (.int .u8 0), .lit (.int .u8 0), .lit (.int .u8 0), .lit (.int .u8 0), .lit (.int .u8 0), .lit (.int .u8 0), .lit (.int .u8 0), .lit (.int .u8 0), .lit (.int .u8 0), .lit (.int .u8 0), .lit (.int .u8 0), .lit (.int .u8 0), .lit (.int .u8 0), .lit (.int .u8 0), .lit (.int .u8 0), .lit (.int .u8 0), .lit (.int .u8 0), .lit (.int .u8 0), .lit (.int .u8 0), .lit (.int .u8 0), .lit (.int .u8 0), .lit (.int .u8 0), .lit (.int .u8 0), .lit (.int .u8 0), .lit (.int .u8 0), .lit (.int .u8 0), .lit (.int .u8 0), .lit (.int .u8 0), .lit (.int .u8 0), .lit (.int .u8 0), .lit (.int .u8 0), .lit (.int .u8 0), .lit (.int .u8 0), .lit (.int .u8 0), .lit (.int .u8 0), .lit (.int .u8 0), .lit (.int .u8 0), .lit (.int .u8 0), .lit (.int .u8 0), .lit (.int .u8 0), .lit (.int .u8 0), .lit (.int .u8 0), .lit (.int .u8 0), .lit (.int .u8 0), .lit (.int .u8 0), .lit (.int .u8 0), .lit (.int .u8 0), .lit (.int .u8 0), .lit (.int .u8 0), .lit (.int .u8 0), .lit (.int .u8 0), .lit (.int .u8 0), .lit (.int .u8 0), .lit (.int .u8 0), .lit (.int .u8 0), .lit (.int .u8 0), .lit (.int .u8 0), .lit (.int .u8 0), .lit (.int .u8 0), .lit (.int .u8 0), .lit (.int .u8 0), .lit (.int .u8 0), .lit (.int .u8 0), .lit (.int .u8 0), .lit (.int .u8 0), .lit (.int .u8 0), .lit (.int .u8 0), .lit (.int .u8 0), .lit (.int .u8 0), .lit (.int .u8 0), .lit (.int .u8 0), .lit (.int .u8 0), .lit (.int .u8 0), .lit (.int .u8 0), .lit (.int .u8 0), .lit (.int .u8 0), .lit (.int .u8 0), .lit (.int .u8 0), .lit (.int .u8 0), .lit (.int .u8 0), .lit (.int .u8 0), .lit (.int .u8 0), .lit (.int .u8 0), .lit (.int .u8 0), .lit (.int .u8 0), .lit (.int .u8 0), .lit (.int .u8 0)]
/-- One of Go's own tables, pinned by name: the form's constant. -/
def laid_unicode_CaseRanges : DataW Unit := Go.Pinned.caseRanges

/-- 'laws.FnBare': WHATEVER THE INPUT: true; the input reads as it did. -/
def fnBareSpec : ChangeSpec := { name := "fnBare", fn := fun _ => fun
  | [d] => { results := [.lit (.bool true)], args := [d] }
  | _ => none }
def fnBareRow : OpenClaim := { program := "yteheelcppgjeaaadoor", sum := "7211e552112d39c17cb9d9b456da4aff4b01b4d258987ab34f50cdbfe0c9dfef", func := "htmlescapers/laws.FnBare", spec := "fnBare", inPlace := ["internal/abi.NoEscape", "internal/bytealg.MakeNoZero"], unfollowed := true, recurses := true, named := ["unicode/utf8.first", "unicode/utf8.acceptRanges", "internal/strconv.uint64pow10", "math/bits.deBruijn32tab", "math/bits.deBruijn64tab"], apart := false, laid := [("math/bits.deBruijn32tab", laid_math_bits_deBruijn32tab), ("math/bits.deBruijn64tab", laid_math_bits_deBruijn64tab), ("internal/strconv.uint64pow10", laid_internal_strconv_uint64pow10), ("unicode/utf8.acceptRanges", laid_unicode_utf8_acceptRanges), ("unicode/utf8.first", laid_unicode_utf8_first)] }
def FnBareSaid : Prop := fnBareRow.holds Tryd.pinned (OpenSpec.ofChange fnBareSpec)

/-- ITS FALSE NEIGHBOUR: 'it returns false'. Refute it at one input. -/
def fnBareWrong : ChangeSpec := { name := "fnBare", fn := fun _ => fun
  | [d] => { results := [.lit (.bool false)], args := [d] }
  | _ => none }
def FnBareWrongFalsely : Prop := fnBareRow.holds Tryd.pinned (OpenSpec.ofChange fnBareWrong)

/-- 'laws.FnText': WHATEVER THE INPUT: true; the input reads as it did. -/
def fnTextSpec : ChangeSpec := { name := "fnText", fn := fun _ => fun
  | [d] => { results := [.lit (.bool true)], args := [d] }
  | _ => none }
def fnTextRow : OpenClaim := { program := "yteheelcppgjeaaadoor", sum := "7211e552112d39c17cb9d9b456da4aff4b01b4d258987ab34f50cdbfe0c9dfef", func := "htmlescapers/laws.FnText", spec := "fnText", inPlace := ["internal/abi.NoEscape", "internal/bytealg.MakeNoZero"], unfollowed := true, recurses := true, named := ["unicode/utf8.first", "unicode/utf8.acceptRanges", "internal/strconv.uint64pow10", "math/bits.deBruijn32tab", "math/bits.deBruijn64tab"], apart := false, laid := [("math/bits.deBruijn32tab", laid_math_bits_deBruijn32tab), ("math/bits.deBruijn64tab", laid_math_bits_deBruijn64tab), ("internal/strconv.uint64pow10", laid_internal_strconv_uint64pow10), ("unicode/utf8.acceptRanges", laid_unicode_utf8_acceptRanges), ("unicode/utf8.first", laid_unicode_utf8_first)] }
def FnTextSaid : Prop := fnTextRow.holds Tryd.pinned (OpenSpec.ofChange fnTextSpec)

/-- ITS FALSE NEIGHBOUR: 'it returns false'. Refute it at one input. -/
def fnTextWrong : ChangeSpec := { name := "fnText", fn := fun _ => fun
  | [d] => { results := [.lit (.bool false)], args := [d] }
  | _ => none }
def FnTextWrongFalsely : Prop := fnTextRow.holds Tryd.pinned (OpenSpec.ofChange fnTextWrong)

/-- 'laws.FnComment': WHATEVER THE INPUT: true; the input reads as it did. -/
def fnCommentSpec : ChangeSpec := { name := "fnComment", fn := fun _ => fun
  | [d] => { results := [.lit (.bool true)], args := [d] }
  | _ => none }
def fnCommentRow : OpenClaim := { program := "yteheelcppgjeaaadoor", sum := "7211e552112d39c17cb9d9b456da4aff4b01b4d258987ab34f50cdbfe0c9dfef", func := "htmlescapers/laws.FnComment", spec := "fnComment", inPlace := ["internal/abi.NoEscape", "internal/bytealg.MakeNoZero"], named := ["unicode/utf8.first", "unicode/utf8.acceptRanges", "internal/strconv.uint64pow10", "math/bits.deBruijn32tab", "math/bits.deBruijn64tab"], apart := false, laid := [("math/bits.deBruijn32tab", laid_math_bits_deBruijn32tab), ("math/bits.deBruijn64tab", laid_math_bits_deBruijn64tab), ("internal/strconv.uint64pow10", laid_internal_strconv_uint64pow10), ("unicode/utf8.acceptRanges", laid_unicode_utf8_acceptRanges), ("unicode/utf8.first", laid_unicode_utf8_first)] }
def FnCommentSaid : Prop := fnCommentRow.holds Tryd.pinned (OpenSpec.ofChange fnCommentSpec)

/-- ITS FALSE NEIGHBOUR: 'it returns false'. Refute it at one input. -/
def fnCommentWrong : ChangeSpec := { name := "fnComment", fn := fun _ => fun
  | [d] => { results := [.lit (.bool false)], args := [d] }
  | _ => none }
def FnCommentWrongFalsely : Prop := fnCommentRow.holds Tryd.pinned (OpenSpec.ofChange fnCommentWrong)

/-- 'laws.FnKept': WHATEVER THE INPUT: true; the input reads as it did. -/
def fnKeptSpec : ChangeSpec := { name := "fnKept", fn := fun _ => fun
  | [d] => { results := [.lit (.bool true)], args := [d] }
  | _ => none }
def fnKeptRow : OpenClaim := { program := "yteheelcppgjeaaadoor", sum := "7211e552112d39c17cb9d9b456da4aff4b01b4d258987ab34f50cdbfe0c9dfef", func := "htmlescapers/laws.FnKept", spec := "fnKept", inPlace := ["internal/abi.NoEscape", "internal/bytealg.MakeNoZero"], unfollowed := true, recurses := true, named := ["unicode/utf8.first", "unicode/utf8.acceptRanges", "internal/strconv.uint64pow10", "math/bits.deBruijn32tab", "math/bits.deBruijn64tab"], apart := false, laid := [("math/bits.deBruijn32tab", laid_math_bits_deBruijn32tab), ("math/bits.deBruijn64tab", laid_math_bits_deBruijn64tab), ("internal/strconv.uint64pow10", laid_internal_strconv_uint64pow10), ("unicode/utf8.acceptRanges", laid_unicode_utf8_acceptRanges), ("unicode/utf8.first", laid_unicode_utf8_first)] }
def FnKeptSaid : Prop := fnKeptRow.holds Tryd.pinned (OpenSpec.ofChange fnKeptSpec)

/-- ITS FALSE NEIGHBOUR: 'it returns false'. Refute it at one input. -/
def fnKeptWrong : ChangeSpec := { name := "fnKept", fn := fun _ => fun
  | [d] => { results := [.lit (.bool false)], args := [d] }
  | _ => none }
def FnKeptWrongFalsely : Prop := fnKeptRow.holds Tryd.pinned (OpenSpec.ofChange fnKeptWrong)

/-- 'laws.FnRCData': WHATEVER THE INPUT: true; the input reads as it did. -/
def fnRCDataSpec : ChangeSpec := { name := "fnRCData", fn := fun _ => fun
  | [d] => { results := [.lit (.bool true)], args := [d] }
  | _ => none }
def fnRCDataRow : OpenClaim := { program := "yteheelcppgjeaaadoor", sum := "7211e552112d39c17cb9d9b456da4aff4b01b4d258987ab34f50cdbfe0c9dfef", func := "htmlescapers/laws.FnRCData", spec := "fnRCData", inPlace := ["internal/abi.NoEscape", "internal/bytealg.MakeNoZero"], unfollowed := true, recurses := true, named := ["unicode/utf8.first", "unicode/utf8.acceptRanges", "internal/strconv.uint64pow10", "math/bits.deBruijn32tab", "math/bits.deBruijn64tab"], apart := false, laid := [("math/bits.deBruijn32tab", laid_math_bits_deBruijn32tab), ("math/bits.deBruijn64tab", laid_math_bits_deBruijn64tab), ("internal/strconv.uint64pow10", laid_internal_strconv_uint64pow10), ("unicode/utf8.acceptRanges", laid_unicode_utf8_acceptRanges), ("unicode/utf8.first", laid_unicode_utf8_first)] }
def FnRCDataSaid : Prop := fnRCDataRow.holds Tryd.pinned (OpenSpec.ofChange fnRCDataSpec)

/-- ITS FALSE NEIGHBOUR: 'it returns false'. Refute it at one input. -/
def fnRCDataWrong : ChangeSpec := { name := "fnRCData", fn := fun _ => fun
  | [d] => { results := [.lit (.bool false)], args := [d] }
  | _ => none }
def FnRCDataWrongFalsely : Prop := fnRCDataRow.holds Tryd.pinned (OpenSpec.ofChange fnRCDataWrong)

/-- 'laws.FnTemplateLiteral': WHATEVER THE INPUT: true; the input reads as it did. -/
def fnTemplateLiteralSpec : ChangeSpec := { name := "fnTemplateLiteral", fn := fun _ => fun
  | [d] => { results := [.lit (.bool true)], args := [d] }
  | _ => none }
def fnTemplateLiteralRow : OpenClaim := { program := "yteheelcppgjeaaadoor", sum := "7211e552112d39c17cb9d9b456da4aff4b01b4d258987ab34f50cdbfe0c9dfef", func := "htmlescapers/laws.FnTemplateLiteral", spec := "fnTemplateLiteral", inPlace := ["internal/abi.NoEscape", "internal/bytealg.MakeNoZero"], unfollowed := true, recurses := true, named := ["htmlescapers/pub/htmltemplate.lowUnicodeReplacementTable", "unicode/utf8.first", "unicode/utf8.acceptRanges", "internal/strconv.uint64pow10", "math/bits.deBruijn32tab", "math/bits.deBruijn64tab"], apart := false, laid := [("math/bits.deBruijn32tab", laid_math_bits_deBruijn32tab), ("math/bits.deBruijn64tab", laid_math_bits_deBruijn64tab), ("internal/strconv.uint64pow10", laid_internal_strconv_uint64pow10), ("unicode/utf8.acceptRanges", laid_unicode_utf8_acceptRanges), ("htmlescapers/pub/htmltemplate.lowUnicodeReplacementTable", laid_htmlescapers_pub_htmltemplate_lowUnicodeReplacementTable), ("unicode/utf8.first", laid_unicode_utf8_first)] }
def FnTemplateLiteralSaid : Prop := fnTemplateLiteralRow.holds Tryd.pinned (OpenSpec.ofChange fnTemplateLiteralSpec)

/-- ITS FALSE NEIGHBOUR: 'it returns false'. Refute it at one input. -/
def fnTemplateLiteralWrong : ChangeSpec := { name := "fnTemplateLiteral", fn := fun _ => fun
  | [d] => { results := [.lit (.bool false)], args := [d] }
  | _ => none }
def FnTemplateLiteralWrongFalsely : Prop := fnTemplateLiteralRow.holds Tryd.pinned (OpenSpec.ofChange fnTemplateLiteralWrong)

/-- 'laws.FnPattern': WHATEVER THE INPUT: true; the input reads as it did. -/
def fnPatternSpec : ChangeSpec := { name := "fnPattern", fn := fun _ => fun
  | [d] => { results := [.lit (.bool true)], args := [d] }
  | _ => none }
def fnPatternRow : OpenClaim := { program := "yteheelcppgjeaaadoor", sum := "7211e552112d39c17cb9d9b456da4aff4b01b4d258987ab34f50cdbfe0c9dfef", func := "htmlescapers/laws.FnPattern", spec := "fnPattern", inPlace := ["internal/abi.NoEscape", "internal/bytealg.MakeNoZero"], unfollowed := true, recurses := true, named := ["htmlescapers/pub/htmltemplate.lowUnicodeReplacementTable", "unicode/utf8.first", "unicode/utf8.acceptRanges", "internal/strconv.uint64pow10", "math/bits.deBruijn32tab", "math/bits.deBruijn64tab"], apart := false, laid := [("math/bits.deBruijn32tab", laid_math_bits_deBruijn32tab), ("math/bits.deBruijn64tab", laid_math_bits_deBruijn64tab), ("internal/strconv.uint64pow10", laid_internal_strconv_uint64pow10), ("unicode/utf8.acceptRanges", laid_unicode_utf8_acceptRanges), ("htmlescapers/pub/htmltemplate.lowUnicodeReplacementTable", laid_htmlescapers_pub_htmltemplate_lowUnicodeReplacementTable), ("unicode/utf8.first", laid_unicode_utf8_first)] }
def FnPatternSaid : Prop := fnPatternRow.holds Tryd.pinned (OpenSpec.ofChange fnPatternSpec)

/-- ITS FALSE NEIGHBOUR: 'it returns false'. Refute it at one input. -/
def fnPatternWrong : ChangeSpec := { name := "fnPattern", fn := fun _ => fun
  | [d] => { results := [.lit (.bool false)], args := [d] }
  | _ => none }
def FnPatternWrongFalsely : Prop := fnPatternRow.holds Tryd.pinned (OpenSpec.ofChange fnPatternWrong)

/-- 'laws.FnString': WHATEVER THE INPUT: true; the input reads as it did. -/
def fnStringSpec : ChangeSpec := { name := "fnString", fn := fun _ => fun
  | [d] => { results := [.lit (.bool true)], args := [d] }
  | _ => none }
def fnStringRow : OpenClaim := { program := "yteheelcppgjeaaadoor", sum := "7211e552112d39c17cb9d9b456da4aff4b01b4d258987ab34f50cdbfe0c9dfef", func := "htmlescapers/laws.FnString", spec := "fnString", inPlace := ["internal/abi.NoEscape", "internal/bytealg.MakeNoZero"], unfollowed := true, recurses := true, named := ["htmlescapers/pub/htmltemplate.lowUnicodeReplacementTable", "unicode/utf8.first", "unicode/utf8.acceptRanges", "internal/strconv.uint64pow10", "math/bits.deBruijn32tab", "math/bits.deBruijn64tab"], apart := false, laid := [("math/bits.deBruijn32tab", laid_math_bits_deBruijn32tab), ("math/bits.deBruijn64tab", laid_math_bits_deBruijn64tab), ("internal/strconv.uint64pow10", laid_internal_strconv_uint64pow10), ("unicode/utf8.acceptRanges", laid_unicode_utf8_acceptRanges), ("htmlescapers/pub/htmltemplate.lowUnicodeReplacementTable", laid_htmlescapers_pub_htmltemplate_lowUnicodeReplacementTable), ("unicode/utf8.first", laid_unicode_utf8_first)] }
def FnStringSaid : Prop := fnStringRow.holds Tryd.pinned (OpenSpec.ofChange fnStringSpec)

/-- ITS FALSE NEIGHBOUR: 'it returns false'. Refute it at one input. -/
def fnStringWrong : ChangeSpec := { name := "fnString", fn := fun _ => fun
  | [d] => { results := [.lit (.bool false)], args := [d] }
  | _ => none }
def FnStringWrongFalsely : Prop := fnStringRow.holds Tryd.pinned (OpenSpec.ofChange fnStringWrong)

/-- 'laws.FnSlash': WHATEVER THE INPUT: true; the input reads as it did. -/
def fnSlashSpec : ChangeSpec := { name := "fnSlash", fn := fun _ => fun
  | [d1, d2] => { results := [.lit (.bool true)], args := [d1, d2] }
  | _ => none }
def fnSlashRow : OpenClaim := { program := "yteheelcppgjeaaadoor", sum := "7211e552112d39c17cb9d9b456da4aff4b01b4d258987ab34f50cdbfe0c9dfef", func := "htmlescapers/laws.FnSlash", spec := "fnSlash", inPlace := ["internal/abi.NoEscape", "internal/bytealg.MakeNoZero"], named := ["unicode/utf8.first", "unicode/utf8.acceptRanges", "internal/strconv.uint64pow10", "math/bits.deBruijn32tab", "math/bits.deBruijn64tab"], apart := false, laid := [("math/bits.deBruijn32tab", laid_math_bits_deBruijn32tab), ("math/bits.deBruijn64tab", laid_math_bits_deBruijn64tab), ("internal/strconv.uint64pow10", laid_internal_strconv_uint64pow10), ("unicode/utf8.acceptRanges", laid_unicode_utf8_acceptRanges), ("unicode/utf8.first", laid_unicode_utf8_first)] }
def FnSlashSaid : Prop := fnSlashRow.holds Tryd.pinned (OpenSpec.ofChange fnSlashSpec)

/-- ITS FALSE NEIGHBOUR: 'it returns false'. Refute it at one input. -/
def fnSlashWrong : ChangeSpec := { name := "fnSlash", fn := fun _ => fun
  | [d1, d2] => { results := [.lit (.bool false)], args := [d1, d2] }
  | _ => none }
def FnSlashWrongFalsely : Prop := fnSlashRow.holds Tryd.pinned (OpenSpec.ofChange fnSlashWrong)

/-- 'laws.FnScriptType': WHATEVER THE INPUT: true; the input reads as it did. -/
def fnScriptTypeSpec : ChangeSpec := { name := "fnScriptType", fn := fun _ => fun
  | [d] => { results := [.lit (.bool true)], args := [d] }
  | _ => none }
def fnScriptTypeRow : OpenClaim := { program := "yteheelcppgjeaaadoor", sum := "7211e552112d39c17cb9d9b456da4aff4b01b4d258987ab34f50cdbfe0c9dfef", func := "htmlescapers/laws.FnScriptType", spec := "fnScriptType", inPlace := ["internal/abi.NoEscape", "internal/bytealg.MakeNoZero"], unfollowed := true, recurses := true, named := ["unicode/utf8.first", "unicode/utf8.acceptRanges", "internal/strconv.uint64pow10", "math/bits.deBruijn32tab", "math/bits.deBruijn64tab", "unicode.CaseRanges", "strings.asciiSpace", "unicode.White_Space"], apart := false, laid := [("math/bits.deBruijn32tab", laid_math_bits_deBruijn32tab), ("math/bits.deBruijn64tab", laid_math_bits_deBruijn64tab), ("internal/strconv.uint64pow10", laid_internal_strconv_uint64pow10), ("unicode/utf8.acceptRanges", laid_unicode_utf8_acceptRanges), ("unicode.White_Space", laid_unicode_White_Space), ("strings.asciiSpace", laid_strings_asciiSpace), ("unicode.CaseRanges", laid_unicode_CaseRanges), ("unicode/utf8.first", laid_unicode_utf8_first)] }
def FnScriptTypeSaid : Prop := fnScriptTypeRow.holds Tryd.pinned (OpenSpec.ofChange fnScriptTypeSpec)

/-- ITS FALSE NEIGHBOUR: 'it returns false'. Refute it at one input. -/
def fnScriptTypeWrong : ChangeSpec := { name := "fnScriptType", fn := fun _ => fun
  | [d] => { results := [.lit (.bool false)], args := [d] }
  | _ => none }
def FnScriptTypeWrongFalsely : Prop := fnScriptTypeRow.holds Tryd.pinned (OpenSpec.ofChange fnScriptTypeWrong)

/- THE SECOND FORM. 'bulk': how many values and letters a reading holds, each counted each time it is reached (what is shared counts as often as it is met; a slice's spare places count too). A statement '..UptoSaid' is the law's where the arguments, and the package variables that the reading takes, are together of bulk at most 1048576: NARROWER than '..Said'. Prove '..Said' where nothing that the law and all that it calls make is longer than what came in: it says more and counts as full. Else prove '..UptoSaid'. A law counts once. -/
mutual
def uptoBulk {H : Type} : DataW H → Nat
  | .lit (.string bytes) => bytes.length + 1
  | .lit _ => 1
  | .nil => 1
  | .ptr d => uptoBulk d + 1
  | .slice elems spare => uptoBulkAll elems + uptoBulkAll spare + 1
  | .agg parts => uptoBulkAll parts + 1
  | .iface _ d => uptoBulk d + 1
  | .map entries => uptoBulkEntries entries + 1
  | .held _ => 1
def uptoBulkAll {H : Type} : List (DataW H) → Nat
  | [] => 0
  | d :: r => uptoBulk d + uptoBulkAll r
def uptoBulkEntries {H : Type} : List (Lit × DataW H) → Nat
  | [] => 0
  | x :: r => uptoBulkEntry x + uptoBulkEntries r
def uptoBulkEntry {H : Type} : Lit × DataW H → Nat
  | (.string bytes, d) => bytes.length + uptoBulk d + 1
  | (_, d) => uptoBulk d + 1
 end
def uptoSmall : (H : Type) → List (DataW H) → Bool := fun _ ds => decide (uptoBulkAll ds ≤ 1048576)
def OpenSpec.upto (s : _root_.Go.ChangeSpec) : _root_.Go.OpenSpec := { _root_.Go.OpenSpec.ofChange s with cond := some uptoSmall }

/-- 'laws.FnBare', WHERE WHAT IT READS IS OF BULK AT MOST 1048576: true; the input reads as it did. -/
def fnBareUptoRow : OpenClaim := { program := "yteheelcppgjeaaadoor", sum := "7211e552112d39c17cb9d9b456da4aff4b01b4d258987ab34f50cdbfe0c9dfef", func := "htmlescapers/laws.FnBare", spec := "fnBare", inPlace := ["internal/abi.NoEscape", "internal/bytealg.MakeNoZero"], unfollowed := true, recurses := true, named := ["unicode/utf8.first", "unicode/utf8.acceptRanges", "internal/strconv.uint64pow10", "math/bits.deBruijn32tab", "math/bits.deBruijn64tab"], apart := false, laid := [("math/bits.deBruijn32tab", laid_math_bits_deBruijn32tab), ("math/bits.deBruijn64tab", laid_math_bits_deBruijn64tab), ("internal/strconv.uint64pow10", laid_internal_strconv_uint64pow10), ("unicode/utf8.acceptRanges", laid_unicode_utf8_acceptRanges), ("unicode/utf8.first", laid_unicode_utf8_first)], narrowed := true }
def FnBareUptoSaid : Prop := fnBareUptoRow.holds Tryd.pinned (OpenSpec.upto fnBareSpec)

/-- 'laws.FnText', WHERE WHAT IT READS IS OF BULK AT MOST 1048576: true; the input reads as it did. -/
def fnTextUptoRow : OpenClaim := { program := "yteheelcppgjeaaadoor", sum := "7211e552112d39c17cb9d9b456da4aff4b01b4d258987ab34f50cdbfe0c9dfef", func := "htmlescapers/laws.FnText", spec := "fnText", inPlace := ["internal/abi.NoEscape", "internal/bytealg.MakeNoZero"], unfollowed := true, recurses := true, named := ["unicode/utf8.first", "unicode/utf8.acceptRanges", "internal/strconv.uint64pow10", "math/bits.deBruijn32tab", "math/bits.deBruijn64tab"], apart := false, laid := [("math/bits.deBruijn32tab", laid_math_bits_deBruijn32tab), ("math/bits.deBruijn64tab", laid_math_bits_deBruijn64tab), ("internal/strconv.uint64pow10", laid_internal_strconv_uint64pow10), ("unicode/utf8.acceptRanges", laid_unicode_utf8_acceptRanges), ("unicode/utf8.first", laid_unicode_utf8_first)], narrowed := true }
def FnTextUptoSaid : Prop := fnTextUptoRow.holds Tryd.pinned (OpenSpec.upto fnTextSpec)

/-- 'laws.FnComment', WHERE WHAT IT READS IS OF BULK AT MOST 1048576: true; the input reads as it did. -/
def fnCommentUptoRow : OpenClaim := { program := "yteheelcppgjeaaadoor", sum := "7211e552112d39c17cb9d9b456da4aff4b01b4d258987ab34f50cdbfe0c9dfef", func := "htmlescapers/laws.FnComment", spec := "fnComment", inPlace := ["internal/abi.NoEscape", "internal/bytealg.MakeNoZero"], named := ["unicode/utf8.first", "unicode/utf8.acceptRanges", "internal/strconv.uint64pow10", "math/bits.deBruijn32tab", "math/bits.deBruijn64tab"], apart := false, laid := [("math/bits.deBruijn32tab", laid_math_bits_deBruijn32tab), ("math/bits.deBruijn64tab", laid_math_bits_deBruijn64tab), ("internal/strconv.uint64pow10", laid_internal_strconv_uint64pow10), ("unicode/utf8.acceptRanges", laid_unicode_utf8_acceptRanges), ("unicode/utf8.first", laid_unicode_utf8_first)], narrowed := true }
def FnCommentUptoSaid : Prop := fnCommentUptoRow.holds Tryd.pinned (OpenSpec.upto fnCommentSpec)

/-- 'laws.FnKept', WHERE WHAT IT READS IS OF BULK AT MOST 1048576: true; the input reads as it did. -/
def fnKeptUptoRow : OpenClaim := { program := "yteheelcppgjeaaadoor", sum := "7211e552112d39c17cb9d9b456da4aff4b01b4d258987ab34f50cdbfe0c9dfef", func := "htmlescapers/laws.FnKept", spec := "fnKept", inPlace := ["internal/abi.NoEscape", "internal/bytealg.MakeNoZero"], unfollowed := true, recurses := true, named := ["unicode/utf8.first", "unicode/utf8.acceptRanges", "internal/strconv.uint64pow10", "math/bits.deBruijn32tab", "math/bits.deBruijn64tab"], apart := false, laid := [("math/bits.deBruijn32tab", laid_math_bits_deBruijn32tab), ("math/bits.deBruijn64tab", laid_math_bits_deBruijn64tab), ("internal/strconv.uint64pow10", laid_internal_strconv_uint64pow10), ("unicode/utf8.acceptRanges", laid_unicode_utf8_acceptRanges), ("unicode/utf8.first", laid_unicode_utf8_first)], narrowed := true }
def FnKeptUptoSaid : Prop := fnKeptUptoRow.holds Tryd.pinned (OpenSpec.upto fnKeptSpec)

/-- 'laws.FnRCData', WHERE WHAT IT READS IS OF BULK AT MOST 1048576: true; the input reads as it did. -/
def fnRCDataUptoRow : OpenClaim := { program := "yteheelcppgjeaaadoor", sum := "7211e552112d39c17cb9d9b456da4aff4b01b4d258987ab34f50cdbfe0c9dfef", func := "htmlescapers/laws.FnRCData", spec := "fnRCData", inPlace := ["internal/abi.NoEscape", "internal/bytealg.MakeNoZero"], unfollowed := true, recurses := true, named := ["unicode/utf8.first", "unicode/utf8.acceptRanges", "internal/strconv.uint64pow10", "math/bits.deBruijn32tab", "math/bits.deBruijn64tab"], apart := false, laid := [("math/bits.deBruijn32tab", laid_math_bits_deBruijn32tab), ("math/bits.deBruijn64tab", laid_math_bits_deBruijn64tab), ("internal/strconv.uint64pow10", laid_internal_strconv_uint64pow10), ("unicode/utf8.acceptRanges", laid_unicode_utf8_acceptRanges), ("unicode/utf8.first", laid_unicode_utf8_first)], narrowed := true }
def FnRCDataUptoSaid : Prop := fnRCDataUptoRow.holds Tryd.pinned (OpenSpec.upto fnRCDataSpec)

/-- 'laws.FnTemplateLiteral', WHERE WHAT IT READS IS OF BULK AT MOST 1048576: true; the input reads as it did. -/
def fnTemplateLiteralUptoRow : OpenClaim := { program := "yteheelcppgjeaaadoor", sum := "7211e552112d39c17cb9d9b456da4aff4b01b4d258987ab34f50cdbfe0c9dfef", func := "htmlescapers/laws.FnTemplateLiteral", spec := "fnTemplateLiteral", inPlace := ["internal/abi.NoEscape", "internal/bytealg.MakeNoZero"], unfollowed := true, recurses := true, named := ["htmlescapers/pub/htmltemplate.lowUnicodeReplacementTable", "unicode/utf8.first", "unicode/utf8.acceptRanges", "internal/strconv.uint64pow10", "math/bits.deBruijn32tab", "math/bits.deBruijn64tab"], apart := false, laid := [("math/bits.deBruijn32tab", laid_math_bits_deBruijn32tab), ("math/bits.deBruijn64tab", laid_math_bits_deBruijn64tab), ("internal/strconv.uint64pow10", laid_internal_strconv_uint64pow10), ("unicode/utf8.acceptRanges", laid_unicode_utf8_acceptRanges), ("htmlescapers/pub/htmltemplate.lowUnicodeReplacementTable", laid_htmlescapers_pub_htmltemplate_lowUnicodeReplacementTable), ("unicode/utf8.first", laid_unicode_utf8_first)], narrowed := true }
def FnTemplateLiteralUptoSaid : Prop := fnTemplateLiteralUptoRow.holds Tryd.pinned (OpenSpec.upto fnTemplateLiteralSpec)

/-- 'laws.FnPattern', WHERE WHAT IT READS IS OF BULK AT MOST 1048576: true; the input reads as it did. -/
def fnPatternUptoRow : OpenClaim := { program := "yteheelcppgjeaaadoor", sum := "7211e552112d39c17cb9d9b456da4aff4b01b4d258987ab34f50cdbfe0c9dfef", func := "htmlescapers/laws.FnPattern", spec := "fnPattern", inPlace := ["internal/abi.NoEscape", "internal/bytealg.MakeNoZero"], unfollowed := true, recurses := true, named := ["htmlescapers/pub/htmltemplate.lowUnicodeReplacementTable", "unicode/utf8.first", "unicode/utf8.acceptRanges", "internal/strconv.uint64pow10", "math/bits.deBruijn32tab", "math/bits.deBruijn64tab"], apart := false, laid := [("math/bits.deBruijn32tab", laid_math_bits_deBruijn32tab), ("math/bits.deBruijn64tab", laid_math_bits_deBruijn64tab), ("internal/strconv.uint64pow10", laid_internal_strconv_uint64pow10), ("unicode/utf8.acceptRanges", laid_unicode_utf8_acceptRanges), ("htmlescapers/pub/htmltemplate.lowUnicodeReplacementTable", laid_htmlescapers_pub_htmltemplate_lowUnicodeReplacementTable), ("unicode/utf8.first", laid_unicode_utf8_first)], narrowed := true }
def FnPatternUptoSaid : Prop := fnPatternUptoRow.holds Tryd.pinned (OpenSpec.upto fnPatternSpec)

/-- 'laws.FnString', WHERE WHAT IT READS IS OF BULK AT MOST 1048576: true; the input reads as it did. -/
def fnStringUptoRow : OpenClaim := { program := "yteheelcppgjeaaadoor", sum := "7211e552112d39c17cb9d9b456da4aff4b01b4d258987ab34f50cdbfe0c9dfef", func := "htmlescapers/laws.FnString", spec := "fnString", inPlace := ["internal/abi.NoEscape", "internal/bytealg.MakeNoZero"], unfollowed := true, recurses := true, named := ["htmlescapers/pub/htmltemplate.lowUnicodeReplacementTable", "unicode/utf8.first", "unicode/utf8.acceptRanges", "internal/strconv.uint64pow10", "math/bits.deBruijn32tab", "math/bits.deBruijn64tab"], apart := false, laid := [("math/bits.deBruijn32tab", laid_math_bits_deBruijn32tab), ("math/bits.deBruijn64tab", laid_math_bits_deBruijn64tab), ("internal/strconv.uint64pow10", laid_internal_strconv_uint64pow10), ("unicode/utf8.acceptRanges", laid_unicode_utf8_acceptRanges), ("htmlescapers/pub/htmltemplate.lowUnicodeReplacementTable", laid_htmlescapers_pub_htmltemplate_lowUnicodeReplacementTable), ("unicode/utf8.first", laid_unicode_utf8_first)], narrowed := true }
def FnStringUptoSaid : Prop := fnStringUptoRow.holds Tryd.pinned (OpenSpec.upto fnStringSpec)

/-- 'laws.FnSlash', WHERE WHAT IT READS IS OF BULK AT MOST 1048576: true; the input reads as it did. -/
def fnSlashUptoRow : OpenClaim := { program := "yteheelcppgjeaaadoor", sum := "7211e552112d39c17cb9d9b456da4aff4b01b4d258987ab34f50cdbfe0c9dfef", func := "htmlescapers/laws.FnSlash", spec := "fnSlash", inPlace := ["internal/abi.NoEscape", "internal/bytealg.MakeNoZero"], named := ["unicode/utf8.first", "unicode/utf8.acceptRanges", "internal/strconv.uint64pow10", "math/bits.deBruijn32tab", "math/bits.deBruijn64tab"], apart := false, laid := [("math/bits.deBruijn32tab", laid_math_bits_deBruijn32tab), ("math/bits.deBruijn64tab", laid_math_bits_deBruijn64tab), ("internal/strconv.uint64pow10", laid_internal_strconv_uint64pow10), ("unicode/utf8.acceptRanges", laid_unicode_utf8_acceptRanges), ("unicode/utf8.first", laid_unicode_utf8_first)], narrowed := true }
def FnSlashUptoSaid : Prop := fnSlashUptoRow.holds Tryd.pinned (OpenSpec.upto fnSlashSpec)

/-- 'laws.FnScriptType', WHERE WHAT IT READS IS OF BULK AT MOST 1048576: true; the input reads as it did. -/
def fnScriptTypeUptoRow : OpenClaim := { program := "yteheelcppgjeaaadoor", sum := "7211e552112d39c17cb9d9b456da4aff4b01b4d258987ab34f50cdbfe0c9dfef", func := "htmlescapers/laws.FnScriptType", spec := "fnScriptType", inPlace := ["internal/abi.NoEscape", "internal/bytealg.MakeNoZero"], unfollowed := true, recurses := true, named := ["unicode/utf8.first", "unicode/utf8.acceptRanges", "internal/strconv.uint64pow10", "math/bits.deBruijn32tab", "math/bits.deBruijn64tab", "unicode.CaseRanges", "strings.asciiSpace", "unicode.White_Space"], apart := false, laid := [("math/bits.deBruijn32tab", laid_math_bits_deBruijn32tab), ("math/bits.deBruijn64tab", laid_math_bits_deBruijn64tab), ("internal/strconv.uint64pow10", laid_internal_strconv_uint64pow10), ("unicode/utf8.acceptRanges", laid_unicode_utf8_acceptRanges), ("unicode.White_Space", laid_unicode_White_Space), ("strings.asciiSpace", laid_strings_asciiSpace), ("unicode.CaseRanges", laid_unicode_CaseRanges), ("unicode/utf8.first", laid_unicode_utf8_first)], narrowed := true }
def FnScriptTypeUptoSaid : Prop := fnScriptTypeUptoRow.holds Tryd.pinned (OpenSpec.upto fnScriptTypeSpec)

end Rows
end Go.Proofs.YteheelcppgjeaaaDoor
