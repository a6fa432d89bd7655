/-
  NARROWER THAN 'FOR EVERY INPUT', by the rows' own cells (each row's printed sentence says how): FnFieldsIterators: laid · FnAnyBytes: laid · FnBytesFieldsAreStrings: laid · FnFieldsFuncSeq: laid · FnBytesFieldsFuncSeq: laid · FnBytesFieldsFunc: laid · FnFieldsSeq: laid · FnBytesFieldsSeq: laid · FnFields: laid · FnFieldsComeBack: laid · FnFieldsHaveNoSpace: laid · FnFieldsOfTwo: laid · FnBytesFields: laid · FnFieldsByFunc: laid.
  DERIVED. THE GIVEN ROWS OF THIS SEAT. 14 by the template 'for every input the law returns true; each argument reads behind the call as it read before'; 0 by the template 'total and deterministic' (their statements: YtchkjdopoanjdaaDoorTotals.lean).
  GIVEN WITH THE SEED: the statements are not yours to turn. If you find one false, say at which input.
  Laid BY PROGRAM, IN A SANDBOX (cutbox-rows.mjs): the forced cells as the released guide's own fill.sh prints them over the translation 11b734462a9f3459… (all of the seat's roots in one cut). By AI agents, Wed Nov 11 2026. No macro, syntax, notation, axiom, sorry.
-/
import Derived.Test.YtchkjdopoanjdaaDoorChecked
import GoSem.PinnedTables
import GoSem.Claim
import GoSem.ClaimJoined
import GoSem.ClaimMapViews
import Derived.JoinedTies
import Derived.KernelRfl
namespace Go.Proofs.YtchkjdopoanjdaaDoor
/- THE CELL 'sum', in the pinned program and in every row, IS THE sha256 OF THE DUMP (.gsa) THAT YtchkjdopoanjdaaDoorProg.lean LOADS. Nothing in Lean hashes anything: it is a label: what it is worth is what the hold of that sum in a sandbox is worth. -/
noncomputable def Tryd.pinned : Pinned := { name := "ytchkjdopoanjdaadoor", sum := "11b734462a9f34592b4010f91bf59a7524cb666445f59811ad89f43baa5c506c", checked := Tryd.checked }
namespace Rows
def none {H : Type} : Left H := { results := [], args := [] }

/- WHAT THE LISTED PACKAGE-LEVEL VARIABLES READ AS WHEN THE CALL BEGINS. Each datum BY PROGRAM (the guide's laid-datum.mjs) off the statement by which the dump's own 'gosem.cut.vars' lays the variable. In a bare row this is a premise. The card (YtchkjdopoanjdaaDoorCards.lean) ties it to the program's text. -/
def laid_unicode_utf8_acceptRanges {H : Type} : DataW H := .agg [.agg [.lit (.int .u8 128), .lit (.int .u8 191)], .agg [.lit (.int .u8 160), .lit (.int .u8 191)], .agg [.lit (.int .u8 128), .lit (.int .u8 159)], .agg [.lit (.int .u8 144), .lit (.int .u8 191)], .agg [.lit (.int .u8 128), .lit (.int .u8 143)], .agg [.lit (.int .u8 0), .lit (.int .u8 0)], .agg [.lit (.int .u8 0), .lit (.int .u8 0)], .agg [.lit (.int .u8 0), .lit (.int .u8 0)], .agg [.lit (.int .u8 0), .lit (.int .u8 0)], .agg [.lit (.int .u8 0), .lit (.int .u8 0)], .agg [.lit (.int .u8 0), .lit (.int .u8 0)], .agg [.lit (.int .u8 0), .lit (.int .u8 0)], .agg [.lit (.int .u8 0), .lit (.int .u8 0)], .agg [.lit (.int .u8 0), .lit (.int .u8 0)], .agg [.lit (.int .u8 0), .lit (.int .u8 0)], .agg [.lit (.int .u8 0), .lit (.int .u8 0)]]
def laid_unicode_White_Space {H : Type} : DataW H := .ptr (.agg [.slice [.agg [.lit (.int .u16 9), .lit (.int .u16 13), .lit (.int .u16 1)], .agg [.lit (.int .u16 32), .lit (.int .u16 133), .lit (.int .u16 101)], .agg [.lit (.int .u16 160), .lit (.int .u16 5760), .lit (.int .u16 5600)], .agg [.lit (.int .u16 8192), .lit (.int .u16 8202), .lit (.int .u16 1)], .agg [.lit (.int .u16 8232), .lit (.int .u16 8233), .lit (.int .u16 1)], .agg [.lit (.int .u16 8239), .lit (.int .u16 8287), .lit (.int .u16 48)], .agg [.lit (.int .u16 12288), .lit (.int .u16 12288), .lit (.int .u16 1)]] [], .nil, .lit (.int .i64 2)])
def laid_strings_asciiSpace {H : Type} : DataW H := .agg [.lit (.int .u8 0), .lit (.int .u8 0), .lit (.int .u8 0), .lit (.int .u8 0), .lit (.int .u8 0), .lit (.int .u8 0), .lit (.int .u8 0), .lit (.int .u8 0), .lit (.int .u8 0), .lit (.int .u8 1), .lit (.int .u8 1), .lit (.int .u8 1), .lit (.int .u8 1), .lit (.int .u8 1), .lit (.int .u8 0), .lit (.int .u8 0), .lit (.int .u8 0), .lit (.int .u8 0), .lit (.int .u8 0), .lit (.int .u8 0), .lit (.int .u8 0), .lit (.int .u8 0), .lit (.int .u8 0), .lit (.int .u8 0), .lit (.int .u8 0), .lit (.int .u8 0), .lit (.int .u8 0), .lit (.int .u8 0), .lit (.int .u8 0), .lit (.int .u8 0), .lit (.int .u8 0), .lit (.int .u8 0), .lit (.int .u8 1), .lit (.int .u8 0), .lit (.int .u8 0), .lit (.int .u8 0), .lit (.int .u8 0), .lit (.int .u8 0), .lit (.int .u8 0), .lit (.int .u8 0), .lit (.int .u8 0), .lit (.int .u8 0), .lit (.int .u8 0), .lit (.int .u8 0), .lit (.int .u8 0), .lit (.int .u8 0), .lit (.int .u8 0), .lit (.int .u8 0), .lit (.int .u8 0), .lit (.int .u8 0), .lit (.int .u8 0), .lit (.int .u8 0), .lit (.int .u8 0), .lit (.int .u8 0), .lit (.int .u8 0), .lit (.int .u8 0), .lit (.int .u8 0), .lit (.int .u8 0), .lit (.int .u8 0), .lit (.int .u8 0), .lit (.int .u8 0), .lit (.int .u8 0), .lit (.int .u8 0), .lit (.int .u8 0), .lit (.int .u8 0), .lit (.int .u8 0), .lit (.int .u8 0), .lit (.int .u8 0), .lit (.int .u8 0), .lit (.int .u8 0), .lit (.int .u8 0), .lit (.int .u8 0), .lit (.int .u8 0), .lit (.int .u8 0), .lit (.int .u8 0), .lit (.int .u8 0), .lit (.int .u8 0), .lit (.int .u8 0), .lit (.int .u8 0), .lit (.int .u8 0), .lit (.int .u8 0), .lit (.int .u8 0), .lit (.int .u8 0), .lit (.int .u8 0), .lit (.int .u8 0), .lit (.int .u8 0), .lit (.int .u8 0), .lit (.int .u8 0), .lit (.int .u8 0), .lit (.int .u8 0), .lit (.int .u8 0), .lit (.int .u8 0), .lit (.int .u8 0), .lit (.int .u8 0), .lit (.int .u8 0), .lit (.int .u8 0), .lit (.int .u8 0), .lit (.int .u8 0), .lit (.int .u8 0), .lit (.int .u8 0), .lit (.int .u8 0), .lit (.int .u8 0), .lit (.int .u8 0), .lit (.int .u8 0), .lit (.int .u8 0), .lit (.int .u8 0), .lit (.int .u8 0), .lit (.int .u8 0), .lit (.int .u8 0), .lit (.int .u8 0), .lit (.int .u8 0), .lit (.int .u8 0), .lit (.int .u8 0), .lit (.int .u8 0), .lit (.int .u8 0), .lit (.int .u8 0), .lit (.int .u8 0), .lit (.int .u8 0), .lit (.int .u8 0), .lit (.int .u8 0), .lit (.int .u8 0), .lit (.int .u8 0), .lit (.int .u8 0), .lit (.int .u8 0), .lit (.int .u8 0), .lit (.int .u8 0), .lit (.int .u8 0), .lit (.int .u8 0), .lit (.int .u8 0), .lit (.int .u8 0), .lit (.int .u8 0), .lit (.int .u8 0), .lit (.int .u8 0), .lit (.int .u8 0), .lit (.int .u8 0), .lit (.int .u8 0), .lit (.int .u8 0), .lit (.int .u8 0), .lit (.int .u8 0), .lit (.int .u8 0), .lit (.int .u8 0), .lit (.int .u8 0), .lit (.int .u8 0), .lit (.int .u8 0), .lit (.int .u8 0), .lit (.int .u8 0), .lit (.int .u8 0), .lit (.int .u8 0), .lit (.int .u8 0), .lit (.int .u8 0), .lit (.int .u8 0), .lit (.int .u8 0), .lit (.int .u8 0), .lit (.int .u8 0), .lit (.int .u8 0), .lit (.int .u8 0), .lit (.int .u8 0), .lit (.int .u8 0), .lit (.int .u8 0), .lit (.int .u8 0), .lit (.int .u8 0), .lit (.int .u8 0), .lit (.int .u8 0), .lit (.int .u8 0), .lit (.int .u8 0), .lit (.int .u8 0), .lit (.int .u8 0), .lit (.int .u8 0), .lit (.int .u8 0), .lit (.int .u8 0), .lit (.int .u8 0), .lit (.int .u8 0), .lit (.int .u8 0), .lit (.int .u8 0), .lit (.int .u8 0), .lit (.int .u8 0), .lit (.int .u8 0), .lit (.int .u8 0), .lit (.int .u8 0), .lit (.int .u8 0), .lit (.int .u8 0), .lit (.int .u8 0), .lit (.int .u8 0), .lit (.int .u8 0), .lit (.int .u8 0), .lit (.int .u8 0), .lit (.int .u8 0), .lit (.int .u8 0), .lit (.int .u8 0), .lit (.int .u8 0), .lit (.int .u8 0), .lit (.int .u8 0), .lit (.int .u8 0), .lit (.int .u8 0), .lit (.int .u8 0), .lit (.int .u8 0), .lit (.int .u8 0), .lit (.int .u8 0), .lit (.int .u8 0), .lit (.int .u8 0), .lit (.int .u8 0), .lit (.int .u8 0), .lit (.int .u8 0), .lit (.int .u8 0), .lit (.int .u8 0), .lit (.int .u8 0), .lit (.int .u8 0), .lit (.int .u8 0), .lit (.int .u8 0), .lit (.int .u8 0), .lit (.int .u8 0), .lit (.int .u8 0), .lit (.int .u8 0), .lit (.int .u8 0), .lit (.int .u8 0), .lit (.int .u8 0), .lit (.int .u8 0), .lit (.int .u8 0), .lit (.int .u8 0), .lit (.int .u8 0), .lit (.int .u8 0), .lit (.int .u8 0), .lit (.int .u8 0), .lit (.int .u8 0), .lit (.int .u8 0), .lit (.int .u8 0), .lit (.int .u8 0), .lit (.int .u8 0), .lit (.int .u8 0), .lit (.int .u8 0), .lit (.int .u8 0), .lit (.int .u8 0), .lit (.int .u8 0), .lit (.int .u8 0), .lit (.int .u8 0), .lit (.int .u8 0), .lit (.int .u8 0), .lit (.int .u8 0), .lit (.int .u8 0), .lit (.int .u8 0), .lit (.int .u8 0), .lit (.int .u8 0), .lit (.int .u8 0), .lit (.int .u8 0), .lit (.int .u8 0), .lit (.int .u8 0), .lit (.int .u8 0), .lit (.int .u8 0), .lit (.int .u8 0), .lit (.int .u8 0), .lit (.int .u8 0), .lit (.int .u8 0), .lit (.int .u8 0), .lit (.int .u8 0), .lit (.int .u8 0), .lit (.int .u8 0)]
/-- One of Go's own tables, pinned by name: the form's constant. -/
def laid_unicode_utf8_first : DataW Unit := Go.Pinned.utf8First
def laid_bytes_asciiSpace {H : Type} : DataW H := .agg [.lit (.int .u8 0), .lit (.int .u8 0), .lit (.int .u8 0), .lit (.int .u8 0), .lit (.int .u8 0), .lit (.int .u8 0), .lit (.int .u8 0), .lit (.int .u8 0), .lit (.int .u8 0), .lit (.int .u8 1), .lit (.int .u8 1), .lit (.int .u8 1), .lit (.int .u8 1), .lit (.int .u8 1), .lit (.int .u8 0), .lit (.int .u8 0), .lit (.int .u8 0), .lit (.int .u8 0), .lit (.int .u8 0), .lit (.int .u8 0), .lit (.int .u8 0), .lit (.int .u8 0), .lit (.int .u8 0), .lit (.int .u8 0), .lit (.int .u8 0), .lit (.int .u8 0), .lit (.int .u8 0), .lit (.int .u8 0), .lit (.int .u8 0), .lit (.int .u8 0), .lit (.int .u8 0), .lit (.int .u8 0), .lit (.int .u8 1), .lit (.int .u8 0), .lit (.int .u8 0), .lit (.int .u8 0), .lit (.int .u8 0), .lit (.int .u8 0), .lit (.int .u8 0), .lit (.int .u8 0), .lit (.int .u8 0), .lit (.int .u8 0), .lit (.int .u8 0), .lit (.int .u8 0), .lit (.int .u8 0), .lit (.int .u8 0), .lit (.int .u8 0), .lit (.int .u8 0), .lit (.int .u8 0), .lit (.int .u8 0), .lit (.int .u8 0), .lit (.int .u8 0), .lit (.int .u8 0), .lit (.int .u8 0), .lit (.int .u8 0), .lit (.int .u8 0), .lit (.int .u8 0), .lit (.int .u8 0), .lit (.int .u8 0), .lit (.int .u8 0), .lit (.int .u8 0), .lit (.int .u8 0), .lit (.int .u8 0), .lit (.int .u8 0), .lit (.int .u8 0), .lit (.int .u8 0), .lit (.int .u8 0), .lit (.int .u8 0), .lit (.int .u8 0), .lit (.int .u8 0), .lit (.int .u8 0), .lit (.int .u8 0), .lit (.int .u8 0), .lit (.int .u8 0), .lit (.int .u8 0), .lit (.int .u8 0), .lit (.int .u8 0), .lit (.int .u8 0), .lit (.int .u8 0), .lit (.int .u8 0), .lit (.int .u8 0), .lit (.int .u8 0), .lit (.int .u8 0), .lit (.int .u8 0), .lit (.int .u8 0), .lit (.int .u8 0), .lit (.int .u8 0), .lit (.int .u8 0), .lit (.int .u8 0), .lit (.int .u8 0), .lit (.int .u8 0), .lit (.int .u8 0), .lit (.int .u8 0), .lit (.int .u8 0), .lit (.int .u8 0), .lit (.int .u8 0), .lit (.int .u8 0), .lit (.int .u8 0), .lit (.int .u8 0), .lit (.int .u8 0), .lit (.int .u8 0), .lit (.int .u8 0), .lit (.int .u8 0), .lit (.int .u8 0), .lit (.int .u8 0), .lit (.int .u8 0), .lit (.int .u8 0), .lit (.int .u8 0), .lit (.int .u8 0), .lit (.int .u8 0), .lit (.int .u8 0), .lit (.int .u8 0), .lit (.int .u8 0), .lit (.int .u8 0), .lit (.int .u8 0), .lit (.int .u8 0), .lit (.int .u8 0), .lit (.int .u8 0), .lit (.int .u8 0), .lit (.int .u8 0), .lit (.int .u8 0), .lit (.int .u8 0), .lit (.int .u8 0), .lit (.int .u8 0), .lit (.int .u8 0), .lit (.int .u8 0), .lit (.int .u8 0), .lit (.int .u8 0), .lit (.int .u8 0), .lit (.int .u8 0), .lit (.int .u8 0), .lit (.int .u8 0), .lit (.int .u8 0), .lit (.int .u8 0), .lit (.int .u8 0), .lit (.int .u8 0), .lit (.int .u8 0), .lit (.int .u8 0), .lit (.int .u8 0), .lit (.int .u8 0), .lit (.int .u8 0), .lit (.int .u8 0), .lit (.int .u8 0), .lit (.int .u8 0), .lit (.int .u8 0), .lit (.int .u8 0), .lit (.int .u8 0), .lit (.int .u8 0), .lit (.int .u8 0), .lit (.int .u8 0), .lit (.int .u8 0), .lit (.int .u8 0), .lit (.int .u8 0), .lit (.int .u8 0), .lit (.int .u8 0), .lit (.int .u8 0), .lit (.int .u8 0), .lit (.int .u8 0), .lit (.int .u8 0), .lit (.int .u8 0), .lit (.int .u8 0), .lit (.int .u8 0), .lit (.int .u8 0), .lit (.int .u8 0), .lit (.int .u8 0), .lit (.int .u8 0), .lit (.int .u8 0), .lit (.int .u8 0), .lit (.int .u8 0), .lit (.int .u8 0), .lit (.int .u8 0), .lit (.int .u8 0), .lit (.int .u8 0), .lit (.int .u8 0), .lit (.int .u8 0), .lit (.int .u8 0), .lit (.int .u8 0), .lit (.int .u8 0), .lit (.int .u8 0), .lit (.int .u8 0), .lit (.int .u8 0), .lit (.int .u8 0), .lit (.int .u8 0), .lit (.int .u8 0), .lit (.int .u8 0), .lit (.int .u8 0), .lit (.int .u8 0), .lit (.int .u8 0), .lit (.int .u8 0), .lit (.int .u8 0), .lit (.int .u8 0), .lit (.int .u8 0), .lit (.int .u8 0), .lit (.int .u8 0), .lit (.int .u8 0), .lit (.int .u8 0), .lit (.int .u8 0), .lit (.int .u8 0), .lit (.int .u8 0), .lit (.int .u8 0), .lit (.int .u8 0), .lit (.int .u8 0), .lit (.int .u8 0), .lit (.int .u8 0), .lit (.int .u8 0), .lit (.int .u8 0), .lit (.int .u8 0), .lit (.int .u8 0), .lit (.int .u8 0), .lit (.int .u8 0), .lit (.int .u8 0), .lit (.int .u8 0), .lit (.int .u8 0), .lit (.int .u8 0), .lit (.int .u8 0), .lit (.int .u8 0), .lit (.int .u8 0), .lit (.int .u8 0), .lit (.int .u8 0), .lit (.int .u8 0), .lit (.int .u8 0), .lit (.int .u8 0), .lit (.int .u8 0), .lit (.int .u8 0), .lit (.int .u8 0), .lit (.int .u8 0), .lit (.int .u8 0), .lit (.int .u8 0), .lit (.int .u8 0), .lit (.int .u8 0), .lit (.int .u8 0), .lit (.int .u8 0), .lit (.int .u8 0), .lit (.int .u8 0), .lit (.int .u8 0), .lit (.int .u8 0), .lit (.int .u8 0), .lit (.int .u8 0), .lit (.int .u8 0), .lit (.int .u8 0), .lit (.int .u8 0), .lit (.int .u8 0), .lit (.int .u8 0), .lit (.int .u8 0), .lit (.int .u8 0), .lit (.int .u8 0), .lit (.int .u8 0), .lit (.int .u8 0), .lit (.int .u8 0), .lit (.int .u8 0), .lit (.int .u8 0), .lit (.int .u8 0), .lit (.int .u8 0), .lit (.int .u8 0), .lit (.int .u8 0), .lit (.int .u8 0)]

/-- 'laws.FnFieldsIterators': WHATEVER THE INPUT: true; the input reads as it did. -/
def fnFieldsIteratorsSpec : ChangeSpec := { name := "fnFieldsIterators", fn := fun _ => fun
  | [d1, d2, d3] => { results := [.lit (.bool true)], args := [d1, d2, d3] }
  | _ => none }
def fnFieldsIteratorsRow : OpenClaim := { program := "ytchkjdopoanjdaadoor", sum := "11b734462a9f34592b4010f91bf59a7524cb666445f59811ad89f43baa5c506c", func := "lib-billhook/laws.FnFieldsIterators", spec := "fnFieldsIterators", unfollowed := true, recurses := true, named := ["strings.asciiSpace", "unicode.White_Space", "unicode/utf8.first", "unicode/utf8.acceptRanges"], apart := false, laid := [("unicode/utf8.acceptRanges", laid_unicode_utf8_acceptRanges), ("unicode.White_Space", laid_unicode_White_Space), ("strings.asciiSpace", laid_strings_asciiSpace), ("unicode/utf8.first", laid_unicode_utf8_first)] }
def FnFieldsIteratorsSaid : Prop := fnFieldsIteratorsRow.holds Tryd.pinned (OpenSpec.ofChange fnFieldsIteratorsSpec)

/-- ITS FALSE NEIGHBOUR: 'it returns false'. Refute it at one input. -/
def fnFieldsIteratorsWrong : ChangeSpec := { name := "fnFieldsIterators", fn := fun _ => fun
  | [d1, d2, d3] => { results := [.lit (.bool false)], args := [d1, d2, d3] }
  | _ => none }
def FnFieldsIteratorsWrongFalsely : Prop := fnFieldsIteratorsRow.holds Tryd.pinned (OpenSpec.ofChange fnFieldsIteratorsWrong)

/-- 'laws.FnAnyBytes': WHATEVER THE INPUT: true; the input reads as it did. -/
def fnAnyBytesSpec : ChangeSpec := { name := "fnAnyBytes", fn := fun _ => fun
  | [d1, d2, d3] => { results := [.lit (.bool true)], args := [d1, d2, d3] }
  | _ => none }
def fnAnyBytesRow : OpenClaim := { program := "ytchkjdopoanjdaadoor", sum := "11b734462a9f34592b4010f91bf59a7524cb666445f59811ad89f43baa5c506c", func := "lib-billhook/laws.FnAnyBytes", spec := "fnAnyBytes", unfollowed := true, recurses := true, named := ["strings.asciiSpace", "unicode.White_Space", "bytes.asciiSpace", "unicode/utf8.first", "unicode/utf8.acceptRanges"], apart := false, laid := [("unicode/utf8.acceptRanges", laid_unicode_utf8_acceptRanges), ("unicode.White_Space", laid_unicode_White_Space), ("bytes.asciiSpace", laid_bytes_asciiSpace), ("strings.asciiSpace", laid_strings_asciiSpace), ("unicode/utf8.first", laid_unicode_utf8_first)] }
def FnAnyBytesSaid : Prop := fnAnyBytesRow.holds Tryd.pinned (OpenSpec.ofChange fnAnyBytesSpec)

/-- ITS FALSE NEIGHBOUR: 'it returns false'. Refute it at one input. -/
def fnAnyBytesWrong : ChangeSpec := { name := "fnAnyBytes", fn := fun _ => fun
  | [d1, d2, d3] => { results := [.lit (.bool false)], args := [d1, d2, d3] }
  | _ => none }
def FnAnyBytesWrongFalsely : Prop := fnAnyBytesRow.holds Tryd.pinned (OpenSpec.ofChange fnAnyBytesWrong)

/-- 'laws.FnBytesFieldsAreStrings': WHATEVER THE INPUT: true; the input reads as it did. -/
def fnBytesFieldsAreStringsSpec : ChangeSpec := { name := "fnBytesFieldsAreStrings", fn := fun _ => fun
  | [d1, d2, d3] => { results := [.lit (.bool true)], args := [d1, d2, d3] }
  | _ => none }
def fnBytesFieldsAreStringsRow : OpenClaim := { program := "ytchkjdopoanjdaadoor", sum := "11b734462a9f34592b4010f91bf59a7524cb666445f59811ad89f43baa5c506c", func := "lib-billhook/laws.FnBytesFieldsAreStrings", spec := "fnBytesFieldsAreStrings", unfollowed := true, recurses := true, named := ["bytes.asciiSpace", "unicode/utf8.first", "unicode/utf8.acceptRanges", "unicode.White_Space", "strings.asciiSpace"], apart := false, laid := [("unicode/utf8.acceptRanges", laid_unicode_utf8_acceptRanges), ("unicode.White_Space", laid_unicode_White_Space), ("bytes.asciiSpace", laid_bytes_asciiSpace), ("strings.asciiSpace", laid_strings_asciiSpace), ("unicode/utf8.first", laid_unicode_utf8_first)] }
def FnBytesFieldsAreStringsSaid : Prop := fnBytesFieldsAreStringsRow.holds Tryd.pinned (OpenSpec.ofChange fnBytesFieldsAreStringsSpec)

/-- ITS FALSE NEIGHBOUR: 'it returns false'. Refute it at one input. -/
def fnBytesFieldsAreStringsWrong : ChangeSpec := { name := "fnBytesFieldsAreStrings", fn := fun _ => fun
  | [d1, d2, d3] => { results := [.lit (.bool false)], args := [d1, d2, d3] }
  | _ => none }
def FnBytesFieldsAreStringsWrongFalsely : Prop := fnBytesFieldsAreStringsRow.holds Tryd.pinned (OpenSpec.ofChange fnBytesFieldsAreStringsWrong)

/-- 'laws.FnFieldsFuncSeq': WHATEVER THE INPUT: true; the input reads as it did. -/
def fnFieldsFuncSeqSpec : ChangeSpec := { name := "fnFieldsFuncSeq", fn := fun _ => fun
  | [d1, d2, d3] => { results := [.lit (.bool true)], args := [d1, d2, d3] }
  | _ => none }
def fnFieldsFuncSeqRow : OpenClaim := { program := "ytchkjdopoanjdaadoor", sum := "11b734462a9f34592b4010f91bf59a7524cb666445f59811ad89f43baa5c506c", func := "lib-billhook/laws.FnFieldsFuncSeq", spec := "fnFieldsFuncSeq", unfollowed := true, recurses := true, named := ["unicode/utf8.first", "unicode/utf8.acceptRanges"], apart := false, laid := [("unicode/utf8.acceptRanges", laid_unicode_utf8_acceptRanges), ("unicode/utf8.first", laid_unicode_utf8_first)] }
def FnFieldsFuncSeqSaid : Prop := fnFieldsFuncSeqRow.holds Tryd.pinned (OpenSpec.ofChange fnFieldsFuncSeqSpec)

/-- ITS FALSE NEIGHBOUR: 'it returns false'. Refute it at one input. -/
def fnFieldsFuncSeqWrong : ChangeSpec := { name := "fnFieldsFuncSeq", fn := fun _ => fun
  | [d1, d2, d3] => { results := [.lit (.bool false)], args := [d1, d2, d3] }
  | _ => none }
def FnFieldsFuncSeqWrongFalsely : Prop := fnFieldsFuncSeqRow.holds Tryd.pinned (OpenSpec.ofChange fnFieldsFuncSeqWrong)

/-- 'laws.FnBytesFieldsFuncSeq': WHATEVER THE INPUT: true; the input reads as it did. -/
def fnBytesFieldsFuncSeqSpec : ChangeSpec := { name := "fnBytesFieldsFuncSeq", fn := fun _ => fun
  | [d1, d2, d3] => { results := [.lit (.bool true)], args := [d1, d2, d3] }
  | _ => none }
def fnBytesFieldsFuncSeqRow : OpenClaim := { program := "ytchkjdopoanjdaadoor", sum := "11b734462a9f34592b4010f91bf59a7524cb666445f59811ad89f43baa5c506c", func := "lib-billhook/laws.FnBytesFieldsFuncSeq", spec := "fnBytesFieldsFuncSeq", unfollowed := true, recurses := true, named := ["unicode/utf8.first", "unicode/utf8.acceptRanges"], apart := false, laid := [("unicode/utf8.acceptRanges", laid_unicode_utf8_acceptRanges), ("unicode/utf8.first", laid_unicode_utf8_first)] }
def FnBytesFieldsFuncSeqSaid : Prop := fnBytesFieldsFuncSeqRow.holds Tryd.pinned (OpenSpec.ofChange fnBytesFieldsFuncSeqSpec)

/-- ITS FALSE NEIGHBOUR: 'it returns false'. Refute it at one input. -/
def fnBytesFieldsFuncSeqWrong : ChangeSpec := { name := "fnBytesFieldsFuncSeq", fn := fun _ => fun
  | [d1, d2, d3] => { results := [.lit (.bool false)], args := [d1, d2, d3] }
  | _ => none }
def FnBytesFieldsFuncSeqWrongFalsely : Prop := fnBytesFieldsFuncSeqRow.holds Tryd.pinned (OpenSpec.ofChange fnBytesFieldsFuncSeqWrong)

/-- 'laws.FnBytesFieldsFunc': WHATEVER THE INPUT: true; the input reads as it did. -/
def fnBytesFieldsFuncSpec : ChangeSpec := { name := "fnBytesFieldsFunc", fn := fun _ => fun
  | [d1, d2] => { results := [.lit (.bool true)], args := [d1, d2] }
  | _ => none }
def fnBytesFieldsFuncRow : OpenClaim := { program := "ytchkjdopoanjdaadoor", sum := "11b734462a9f34592b4010f91bf59a7524cb666445f59811ad89f43baa5c506c", func := "lib-billhook/laws.FnBytesFieldsFunc", spec := "fnBytesFieldsFunc", unfollowed := true, recurses := true, named := ["unicode/utf8.first", "unicode/utf8.acceptRanges"], apart := false, laid := [("unicode/utf8.acceptRanges", laid_unicode_utf8_acceptRanges), ("unicode/utf8.first", laid_unicode_utf8_first)] }
def FnBytesFieldsFuncSaid : Prop := fnBytesFieldsFuncRow.holds Tryd.pinned (OpenSpec.ofChange fnBytesFieldsFuncSpec)

/-- ITS FALSE NEIGHBOUR: 'it returns false'. Refute it at one input. -/
def fnBytesFieldsFuncWrong : ChangeSpec := { name := "fnBytesFieldsFunc", fn := fun _ => fun
  | [d1, d2] => { results := [.lit (.bool false)], args := [d1, d2] }
  | _ => none }
def FnBytesFieldsFuncWrongFalsely : Prop := fnBytesFieldsFuncRow.holds Tryd.pinned (OpenSpec.ofChange fnBytesFieldsFuncWrong)

/-- 'laws.FnFieldsSeq': WHATEVER THE INPUT: true; the input reads as it did. -/
def fnFieldsSeqSpec : ChangeSpec := { name := "fnFieldsSeq", fn := fun _ => fun
  | [d1, d2] => { results := [.lit (.bool true)], args := [d1, d2] }
  | _ => none }
def fnFieldsSeqRow : OpenClaim := { program := "ytchkjdopoanjdaadoor", sum := "11b734462a9f34592b4010f91bf59a7524cb666445f59811ad89f43baa5c506c", func := "lib-billhook/laws.FnFieldsSeq", spec := "fnFieldsSeq", unfollowed := true, recurses := true, named := ["strings.asciiSpace", "unicode/utf8.first", "unicode/utf8.acceptRanges", "unicode.White_Space"], apart := false, laid := [("unicode/utf8.acceptRanges", laid_unicode_utf8_acceptRanges), ("unicode.White_Space", laid_unicode_White_Space), ("strings.asciiSpace", laid_strings_asciiSpace), ("unicode/utf8.first", laid_unicode_utf8_first)] }
def FnFieldsSeqSaid : Prop := fnFieldsSeqRow.holds Tryd.pinned (OpenSpec.ofChange fnFieldsSeqSpec)

/-- ITS FALSE NEIGHBOUR: 'it returns false'. Refute it at one input. -/
def fnFieldsSeqWrong : ChangeSpec := { name := "fnFieldsSeq", fn := fun _ => fun
  | [d1, d2] => { results := [.lit (.bool false)], args := [d1, d2] }
  | _ => none }
def FnFieldsSeqWrongFalsely : Prop := fnFieldsSeqRow.holds Tryd.pinned (OpenSpec.ofChange fnFieldsSeqWrong)

/-- 'laws.FnBytesFieldsSeq': WHATEVER THE INPUT: true; the input reads as it did. -/
def fnBytesFieldsSeqSpec : ChangeSpec := { name := "fnBytesFieldsSeq", fn := fun _ => fun
  | [d1, d2] => { results := [.lit (.bool true)], args := [d1, d2] }
  | _ => none }
def fnBytesFieldsSeqRow : OpenClaim := { program := "ytchkjdopoanjdaadoor", sum := "11b734462a9f34592b4010f91bf59a7524cb666445f59811ad89f43baa5c506c", func := "lib-billhook/laws.FnBytesFieldsSeq", spec := "fnBytesFieldsSeq", unfollowed := true, recurses := true, named := ["bytes.asciiSpace", "unicode/utf8.first", "unicode/utf8.acceptRanges", "unicode.White_Space"], apart := false, laid := [("unicode/utf8.acceptRanges", laid_unicode_utf8_acceptRanges), ("unicode.White_Space", laid_unicode_White_Space), ("bytes.asciiSpace", laid_bytes_asciiSpace), ("unicode/utf8.first", laid_unicode_utf8_first)] }
def FnBytesFieldsSeqSaid : Prop := fnBytesFieldsSeqRow.holds Tryd.pinned (OpenSpec.ofChange fnBytesFieldsSeqSpec)

/-- ITS FALSE NEIGHBOUR: 'it returns false'. Refute it at one input. -/
def fnBytesFieldsSeqWrong : ChangeSpec := { name := "fnBytesFieldsSeq", fn := fun _ => fun
  | [d1, d2] => { results := [.lit (.bool false)], args := [d1, d2] }
  | _ => none }
def FnBytesFieldsSeqWrongFalsely : Prop := fnBytesFieldsSeqRow.holds Tryd.pinned (OpenSpec.ofChange fnBytesFieldsSeqWrong)

/-- 'laws.FnFields': WHATEVER THE INPUT: true; the input reads as it did. -/
def fnFieldsSpec : ChangeSpec := { name := "fnFields", fn := fun _ => fun
  | [d] => { results := [.lit (.bool true)], args := [d] }
  | _ => none }
def fnFieldsRow : OpenClaim := { program := "ytchkjdopoanjdaadoor", sum := "11b734462a9f34592b4010f91bf59a7524cb666445f59811ad89f43baa5c506c", func := "lib-billhook/laws.FnFields", spec := "fnFields", unfollowed := true, recurses := true, named := ["strings.asciiSpace", "unicode.White_Space"], apart := false, laid := [("unicode.White_Space", laid_unicode_White_Space), ("strings.asciiSpace", laid_strings_asciiSpace)] }
def FnFieldsSaid : Prop := fnFieldsRow.holds Tryd.pinned (OpenSpec.ofChange fnFieldsSpec)

/-- ITS FALSE NEIGHBOUR: 'it returns false'. Refute it at one input. -/
def fnFieldsWrong : ChangeSpec := { name := "fnFields", fn := fun _ => fun
  | [d] => { results := [.lit (.bool false)], args := [d] }
  | _ => none }
def FnFieldsWrongFalsely : Prop := fnFieldsRow.holds Tryd.pinned (OpenSpec.ofChange fnFieldsWrong)

/-- 'laws.FnFieldsComeBack': WHATEVER THE INPUT: true; the input reads as it did. -/
def fnFieldsComeBackSpec : ChangeSpec := { name := "fnFieldsComeBack", fn := fun _ => fun
  | [d1, d2, d3, d4] => { results := [.lit (.bool true)], args := [d1, d2, d3, d4] }
  | _ => none }
def fnFieldsComeBackRow : OpenClaim := { program := "ytchkjdopoanjdaadoor", sum := "11b734462a9f34592b4010f91bf59a7524cb666445f59811ad89f43baa5c506c", func := "lib-billhook/laws.FnFieldsComeBack", spec := "fnFieldsComeBack", unfollowed := true, recurses := true, named := ["strings.asciiSpace", "unicode.White_Space"], apart := false, laid := [("unicode.White_Space", laid_unicode_White_Space), ("strings.asciiSpace", laid_strings_asciiSpace)] }
def FnFieldsComeBackSaid : Prop := fnFieldsComeBackRow.holds Tryd.pinned (OpenSpec.ofChange fnFieldsComeBackSpec)

/-- ITS FALSE NEIGHBOUR: 'it returns false'. Refute it at one input. -/
def fnFieldsComeBackWrong : ChangeSpec := { name := "fnFieldsComeBack", fn := fun _ => fun
  | [d1, d2, d3, d4] => { results := [.lit (.bool false)], args := [d1, d2, d3, d4] }
  | _ => none }
def FnFieldsComeBackWrongFalsely : Prop := fnFieldsComeBackRow.holds Tryd.pinned (OpenSpec.ofChange fnFieldsComeBackWrong)

/-- 'laws.FnFieldsHaveNoSpace': WHATEVER THE INPUT: true; the input reads as it did. -/
def fnFieldsHaveNoSpaceSpec : ChangeSpec := { name := "fnFieldsHaveNoSpace", fn := fun _ => fun
  | [d] => { results := [.lit (.bool true)], args := [d] }
  | _ => none }
def fnFieldsHaveNoSpaceRow : OpenClaim := { program := "ytchkjdopoanjdaadoor", sum := "11b734462a9f34592b4010f91bf59a7524cb666445f59811ad89f43baa5c506c", func := "lib-billhook/laws.FnFieldsHaveNoSpace", spec := "fnFieldsHaveNoSpace", unfollowed := true, recurses := true, named := ["strings.asciiSpace", "unicode.White_Space"], apart := false, laid := [("unicode.White_Space", laid_unicode_White_Space), ("strings.asciiSpace", laid_strings_asciiSpace)] }
def FnFieldsHaveNoSpaceSaid : Prop := fnFieldsHaveNoSpaceRow.holds Tryd.pinned (OpenSpec.ofChange fnFieldsHaveNoSpaceSpec)

/-- ITS FALSE NEIGHBOUR: 'it returns false'. Refute it at one input. -/
def fnFieldsHaveNoSpaceWrong : ChangeSpec := { name := "fnFieldsHaveNoSpace", fn := fun _ => fun
  | [d] => { results := [.lit (.bool false)], args := [d] }
  | _ => none }
def FnFieldsHaveNoSpaceWrongFalsely : Prop := fnFieldsHaveNoSpaceRow.holds Tryd.pinned (OpenSpec.ofChange fnFieldsHaveNoSpaceWrong)

/-- 'laws.FnFieldsOfTwo': WHATEVER THE INPUT: true; the input reads as it did. -/
def fnFieldsOfTwoSpec : ChangeSpec := { name := "fnFieldsOfTwo", fn := fun _ => fun
  | [d1, d2] => { results := [.lit (.bool true)], args := [d1, d2] }
  | _ => none }
def fnFieldsOfTwoRow : OpenClaim := { program := "ytchkjdopoanjdaadoor", sum := "11b734462a9f34592b4010f91bf59a7524cb666445f59811ad89f43baa5c506c", func := "lib-billhook/laws.FnFieldsOfTwo", spec := "fnFieldsOfTwo", unfollowed := true, recurses := true, named := ["strings.asciiSpace", "unicode.White_Space"], apart := false, laid := [("unicode.White_Space", laid_unicode_White_Space), ("strings.asciiSpace", laid_strings_asciiSpace)] }
def FnFieldsOfTwoSaid : Prop := fnFieldsOfTwoRow.holds Tryd.pinned (OpenSpec.ofChange fnFieldsOfTwoSpec)

/-- ITS FALSE NEIGHBOUR: 'it returns false'. Refute it at one input. -/
def fnFieldsOfTwoWrong : ChangeSpec := { name := "fnFieldsOfTwo", fn := fun _ => fun
  | [d1, d2] => { results := [.lit (.bool false)], args := [d1, d2] }
  | _ => none }
def FnFieldsOfTwoWrongFalsely : Prop := fnFieldsOfTwoRow.holds Tryd.pinned (OpenSpec.ofChange fnFieldsOfTwoWrong)

/-- 'laws.FnBytesFields': WHATEVER THE INPUT: true; the input reads as it did. -/
def fnBytesFieldsSpec : ChangeSpec := { name := "fnBytesFields", fn := fun _ => fun
  | [d] => { results := [.lit (.bool true)], args := [d] }
  | _ => none }
def fnBytesFieldsRow : OpenClaim := { program := "ytchkjdopoanjdaadoor", sum := "11b734462a9f34592b4010f91bf59a7524cb666445f59811ad89f43baa5c506c", func := "lib-billhook/laws.FnBytesFields", spec := "fnBytesFields", unfollowed := true, recurses := true, named := ["bytes.asciiSpace", "unicode/utf8.first", "unicode/utf8.acceptRanges", "unicode.White_Space"], apart := false, laid := [("unicode/utf8.acceptRanges", laid_unicode_utf8_acceptRanges), ("unicode.White_Space", laid_unicode_White_Space), ("bytes.asciiSpace", laid_bytes_asciiSpace), ("unicode/utf8.first", laid_unicode_utf8_first)] }
def FnBytesFieldsSaid : Prop := fnBytesFieldsRow.holds Tryd.pinned (OpenSpec.ofChange fnBytesFieldsSpec)

/-- ITS FALSE NEIGHBOUR: 'it returns false'. Refute it at one input. -/
def fnBytesFieldsWrong : ChangeSpec := { name := "fnBytesFields", fn := fun _ => fun
  | [d] => { results := [.lit (.bool false)], args := [d] }
  | _ => none }
def FnBytesFieldsWrongFalsely : Prop := fnBytesFieldsRow.holds Tryd.pinned (OpenSpec.ofChange fnBytesFieldsWrong)

/-- 'laws.FnFieldsByFunc': WHATEVER THE INPUT: true; the input reads as it did. -/
def fnFieldsByFuncSpec : ChangeSpec := { name := "fnFieldsByFunc", fn := fun _ => fun
  | [d1, d2] => { results := [.lit (.bool true)], args := [d1, d2] }
  | _ => none }
def fnFieldsByFuncRow : OpenClaim := { program := "ytchkjdopoanjdaadoor", sum := "11b734462a9f34592b4010f91bf59a7524cb666445f59811ad89f43baa5c506c", func := "lib-billhook/laws.FnFieldsByFunc", spec := "fnFieldsByFunc", unfollowed := true, recurses := true, named := ["strings.asciiSpace", "unicode.White_Space", "unicode/utf8.first", "unicode/utf8.acceptRanges"], apart := false, laid := [("unicode/utf8.acceptRanges", laid_unicode_utf8_acceptRanges), ("unicode.White_Space", laid_unicode_White_Space), ("strings.asciiSpace", laid_strings_asciiSpace), ("unicode/utf8.first", laid_unicode_utf8_first)] }
def FnFieldsByFuncSaid : Prop := fnFieldsByFuncRow.holds Tryd.pinned (OpenSpec.ofChange fnFieldsByFuncSpec)

/-- ITS FALSE NEIGHBOUR: 'it returns false'. Refute it at one input. -/
def fnFieldsByFuncWrong : ChangeSpec := { name := "fnFieldsByFunc", fn := fun _ => fun
  | [d1, d2] => { results := [.lit (.bool false)], args := [d1, d2] }
  | _ => none }
def FnFieldsByFuncWrongFalsely : Prop := fnFieldsByFuncRow.holds Tryd.pinned (OpenSpec.ofChange fnFieldsByFuncWrong)

/- THE SECOND FORM. 'bulk': how many values and letters a reading holds, each counted each time it is reached (what is shared counts as often as it is met; a slice's spare places count too). A statement '..UptoSaid' is the law's where the arguments, and the package variables that the reading takes, are together of bulk at most 1048576: NARROWER than '..Said'. Prove '..Said' where nothing that the law and all that it calls make is longer than what came in: it says more and counts as full. Else prove '..UptoSaid'. A law counts once. -/
mutual
def uptoBulk {H : Type} : DataW H → Nat
  | .lit (.string bytes) => bytes.length + 1
  | .lit _ => 1
  | .nil => 1
  | .ptr d => uptoBulk d + 1
  | .slice elems spare => uptoBulkAll elems + uptoBulkAll spare + 1
  | .agg parts => uptoBulkAll parts + 1
  | .iface _ d => uptoBulk d + 1
  | .map entries => uptoBulkEntries entries + 1
  | .held _ => 1
def uptoBulkAll {H : Type} : List (DataW H) → Nat
  | [] => 0
  | d :: r => uptoBulk d + uptoBulkAll r
def uptoBulkEntries {H : Type} : List (Lit × DataW H) → Nat
  | [] => 0
  | x :: r => uptoBulkEntry x + uptoBulkEntries r
def uptoBulkEntry {H : Type} : Lit × DataW H → Nat
  | (.string bytes, d) => bytes.length + uptoBulk d + 1
  | (_, d) => uptoBulk d + 1
 end
def uptoSmall : (H : Type) → List (DataW H) → Bool := fun _ ds => decide (uptoBulkAll ds ≤ 1048576)
def OpenSpec.upto (s : _root_.Go.ChangeSpec) : _root_.Go.OpenSpec := { _root_.Go.OpenSpec.ofChange s with cond := some uptoSmall }

/-- 'laws.FnFieldsIterators', WHERE WHAT IT READS IS OF BULK AT MOST 1048576: true; the input reads as it did. -/
def fnFieldsIteratorsUptoRow : OpenClaim := { program := "ytchkjdopoanjdaadoor", sum := "11b734462a9f34592b4010f91bf59a7524cb666445f59811ad89f43baa5c506c", func := "lib-billhook/laws.FnFieldsIterators", spec := "fnFieldsIterators", unfollowed := true, recurses := true, named := ["strings.asciiSpace", "unicode.White_Space", "unicode/utf8.first", "unicode/utf8.acceptRanges"], apart := false, laid := [("unicode/utf8.acceptRanges", laid_unicode_utf8_acceptRanges), ("unicode.White_Space", laid_unicode_White_Space), ("strings.asciiSpace", laid_strings_asciiSpace), ("unicode/utf8.first", laid_unicode_utf8_first)], narrowed := true }
def FnFieldsIteratorsUptoSaid : Prop := fnFieldsIteratorsUptoRow.holds Tryd.pinned (OpenSpec.upto fnFieldsIteratorsSpec)

/-- 'laws.FnAnyBytes', WHERE WHAT IT READS IS OF BULK AT MOST 1048576: true; the input reads as it did. -/
def fnAnyBytesUptoRow : OpenClaim := { program := "ytchkjdopoanjdaadoor", sum := "11b734462a9f34592b4010f91bf59a7524cb666445f59811ad89f43baa5c506c", func := "lib-billhook/laws.FnAnyBytes", spec := "fnAnyBytes", unfollowed := true, recurses := true, named := ["strings.asciiSpace", "unicode.White_Space", "bytes.asciiSpace", "unicode/utf8.first", "unicode/utf8.acceptRanges"], apart := false, laid := [("unicode/utf8.acceptRanges", laid_unicode_utf8_acceptRanges), ("unicode.White_Space", laid_unicode_White_Space), ("bytes.asciiSpace", laid_bytes_asciiSpace), ("strings.asciiSpace", laid_strings_asciiSpace), ("unicode/utf8.first", laid_unicode_utf8_first)], narrowed := true }
def FnAnyBytesUptoSaid : Prop := fnAnyBytesUptoRow.holds Tryd.pinned (OpenSpec.upto fnAnyBytesSpec)

/-- 'laws.FnBytesFieldsAreStrings', WHERE WHAT IT READS IS OF BULK AT MOST 1048576: true; the input reads as it did. -/
def fnBytesFieldsAreStringsUptoRow : OpenClaim := { program := "ytchkjdopoanjdaadoor", sum := "11b734462a9f34592b4010f91bf59a7524cb666445f59811ad89f43baa5c506c", func := "lib-billhook/laws.FnBytesFieldsAreStrings", spec := "fnBytesFieldsAreStrings", unfollowed := true, recurses := true, named := ["bytes.asciiSpace", "unicode/utf8.first", "unicode/utf8.acceptRanges", "unicode.White_Space", "strings.asciiSpace"], apart := false, laid := [("unicode/utf8.acceptRanges", laid_unicode_utf8_acceptRanges), ("unicode.White_Space", laid_unicode_White_Space), ("bytes.asciiSpace", laid_bytes_asciiSpace), ("strings.asciiSpace", laid_strings_asciiSpace), ("unicode/utf8.first", laid_unicode_utf8_first)], narrowed := true }
def FnBytesFieldsAreStringsUptoSaid : Prop := fnBytesFieldsAreStringsUptoRow.holds Tryd.pinned (OpenSpec.upto fnBytesFieldsAreStringsSpec)

/-- 'laws.FnFieldsFuncSeq', WHERE WHAT IT READS IS OF BULK AT MOST 1048576: true; the input reads as it did. -/
def fnFieldsFuncSeqUptoRow : OpenClaim := { program := "ytchkjdopoanjdaadoor", sum := "11b734462a9f34592b4010f91bf59a7524cb666445f59811ad89f43baa5c506c", func := "lib-billhook/laws.FnFieldsFuncSeq", spec := "fnFieldsFuncSeq", unfollowed := true, recurses := true, named := ["unicode/utf8.first", "unicode/utf8.acceptRanges"], apart := false, laid := [("unicode/utf8.acceptRanges", laid_unicode_utf8_acceptRanges), ("unicode/utf8.first", laid_unicode_utf8_first)], narrowed := true }
def FnFieldsFuncSeqUptoSaid : Prop := fnFieldsFuncSeqUptoRow.holds Tryd.pinned (OpenSpec.upto fnFieldsFuncSeqSpec)

/-- 'laws.FnBytesFieldsFuncSeq', WHERE WHAT IT READS IS OF BULK AT MOST 1048576: true; the input reads as it did. -/
def fnBytesFieldsFuncSeqUptoRow : OpenClaim := { program := "ytchkjdopoanjdaadoor", sum := "11b734462a9f34592b4010f91bf59a7524cb666445f59811ad89f43baa5c506c", func := "lib-billhook/laws.FnBytesFieldsFuncSeq", spec := "fnBytesFieldsFuncSeq", unfollowed := true, recurses := true, named := ["unicode/utf8.first", "unicode/utf8.acceptRanges"], apart := false, laid := [("unicode/utf8.acceptRanges", laid_unicode_utf8_acceptRanges), ("unicode/utf8.first", laid_unicode_utf8_first)], narrowed := true }
def FnBytesFieldsFuncSeqUptoSaid : Prop := fnBytesFieldsFuncSeqUptoRow.holds Tryd.pinned (OpenSpec.upto fnBytesFieldsFuncSeqSpec)

/-- 'laws.FnBytesFieldsFunc', WHERE WHAT IT READS IS OF BULK AT MOST 1048576: true; the input reads as it did. -/
def fnBytesFieldsFuncUptoRow : OpenClaim := { program := "ytchkjdopoanjdaadoor", sum := "11b734462a9f34592b4010f91bf59a7524cb666445f59811ad89f43baa5c506c", func := "lib-billhook/laws.FnBytesFieldsFunc", spec := "fnBytesFieldsFunc", unfollowed := true, recurses := true, named := ["unicode/utf8.first", "unicode/utf8.acceptRanges"], apart := false, laid := [("unicode/utf8.acceptRanges", laid_unicode_utf8_acceptRanges), ("unicode/utf8.first", laid_unicode_utf8_first)], narrowed := true }
def FnBytesFieldsFuncUptoSaid : Prop := fnBytesFieldsFuncUptoRow.holds Tryd.pinned (OpenSpec.upto fnBytesFieldsFuncSpec)

/-- 'laws.FnFieldsSeq', WHERE WHAT IT READS IS OF BULK AT MOST 1048576: true; the input reads as it did. -/
def fnFieldsSeqUptoRow : OpenClaim := { program := "ytchkjdopoanjdaadoor", sum := "11b734462a9f34592b4010f91bf59a7524cb666445f59811ad89f43baa5c506c", func := "lib-billhook/laws.FnFieldsSeq", spec := "fnFieldsSeq", unfollowed := true, recurses := true, named := ["strings.asciiSpace", "unicode/utf8.first", "unicode/utf8.acceptRanges", "unicode.White_Space"], apart := false, laid := [("unicode/utf8.acceptRanges", laid_unicode_utf8_acceptRanges), ("unicode.White_Space", laid_unicode_White_Space), ("strings.asciiSpace", laid_strings_asciiSpace), ("unicode/utf8.first", laid_unicode_utf8_first)], narrowed := true }
def FnFieldsSeqUptoSaid : Prop := fnFieldsSeqUptoRow.holds Tryd.pinned (OpenSpec.upto fnFieldsSeqSpec)

/-- 'laws.FnBytesFieldsSeq', WHERE WHAT IT READS IS OF BULK AT MOST 1048576: true; the input reads as it did. -/
def fnBytesFieldsSeqUptoRow : OpenClaim := { program := "ytchkjdopoanjdaadoor", sum := "11b734462a9f34592b4010f91bf59a7524cb666445f59811ad89f43baa5c506c", func := "lib-billhook/laws.FnBytesFieldsSeq", spec := "fnBytesFieldsSeq", unfollowed := true, recurses := true, named := ["bytes.asciiSpace", "unicode/utf8.first", "unicode/utf8.acceptRanges", "unicode.White_Space"], apart := false, laid := [("unicode/utf8.acceptRanges", laid_unicode_utf8_acceptRanges), ("unicode.White_Space", laid_unicode_White_Space), ("bytes.asciiSpace", laid_bytes_asciiSpace), ("unicode/utf8.first", laid_unicode_utf8_first)], narrowed := true }
def FnBytesFieldsSeqUptoSaid : Prop := fnBytesFieldsSeqUptoRow.holds Tryd.pinned (OpenSpec.upto fnBytesFieldsSeqSpec)

/-- 'laws.FnFields', WHERE WHAT IT READS IS OF BULK AT MOST 1048576: true; the input reads as it did. -/
def fnFieldsUptoRow : OpenClaim := { program := "ytchkjdopoanjdaadoor", sum := "11b734462a9f34592b4010f91bf59a7524cb666445f59811ad89f43baa5c506c", func := "lib-billhook/laws.FnFields", spec := "fnFields", unfollowed := true, recurses := true, named := ["strings.asciiSpace", "unicode.White_Space"], apart := false, laid := [("unicode.White_Space", laid_unicode_White_Space), ("strings.asciiSpace", laid_strings_asciiSpace)], narrowed := true }
def FnFieldsUptoSaid : Prop := fnFieldsUptoRow.holds Tryd.pinned (OpenSpec.upto fnFieldsSpec)

/-- 'laws.FnFieldsComeBack', WHERE WHAT IT READS IS OF BULK AT MOST 1048576: true; the input reads as it did. -/
def fnFieldsComeBackUptoRow : OpenClaim := { program := "ytchkjdopoanjdaadoor", sum := "11b734462a9f34592b4010f91bf59a7524cb666445f59811ad89f43baa5c506c", func := "lib-billhook/laws.FnFieldsComeBack", spec := "fnFieldsComeBack", unfollowed := true, recurses := true, named := ["strings.asciiSpace", "unicode.White_Space"], apart := false, laid := [("unicode.White_Space", laid_unicode_White_Space), ("strings.asciiSpace", laid_strings_asciiSpace)], narrowed := true }
def FnFieldsComeBackUptoSaid : Prop := fnFieldsComeBackUptoRow.holds Tryd.pinned (OpenSpec.upto fnFieldsComeBackSpec)

/-- 'laws.FnFieldsHaveNoSpace', WHERE WHAT IT READS IS OF BULK AT MOST 1048576: true; the input reads as it did. -/
def fnFieldsHaveNoSpaceUptoRow : OpenClaim := { program := "ytchkjdopoanjdaadoor", sum := "11b734462a9f34592b4010f91bf59a7524cb666445f59811ad89f43baa5c506c", func := "lib-billhook/laws.FnFieldsHaveNoSpace", spec := "fnFieldsHaveNoSpace", unfollowed := true, recurses := true, named := ["strings.asciiSpace", "unicode.White_Space"], apart := false, laid := [("unicode.White_Space", laid_unicode_White_Space), ("strings.asciiSpace", laid_strings_asciiSpace)], narrowed := true }
def FnFieldsHaveNoSpaceUptoSaid : Prop := fnFieldsHaveNoSpaceUptoRow.holds Tryd.pinned (OpenSpec.upto fnFieldsHaveNoSpaceSpec)

/-- 'laws.FnFieldsOfTwo', WHERE WHAT IT READS IS OF BULK AT MOST 1048576: true; the input reads as it did. -/
def fnFieldsOfTwoUptoRow : OpenClaim := { program := "ytchkjdopoanjdaadoor", sum := "11b734462a9f34592b4010f91bf59a7524cb666445f59811ad89f43baa5c506c", func := "lib-billhook/laws.FnFieldsOfTwo", spec := "fnFieldsOfTwo", unfollowed := true, recurses := true, named := ["strings.asciiSpace", "unicode.White_Space"], apart := false, laid := [("unicode.White_Space", laid_unicode_White_Space), ("strings.asciiSpace", laid_strings_asciiSpace)], narrowed := true }
def FnFieldsOfTwoUptoSaid : Prop := fnFieldsOfTwoUptoRow.holds Tryd.pinned (OpenSpec.upto fnFieldsOfTwoSpec)

/-- 'laws.FnBytesFields', WHERE WHAT IT READS IS OF BULK AT MOST 1048576: true; the input reads as it did. -/
def fnBytesFieldsUptoRow : OpenClaim := { program := "ytchkjdopoanjdaadoor", sum := "11b734462a9f34592b4010f91bf59a7524cb666445f59811ad89f43baa5c506c", func := "lib-billhook/laws.FnBytesFields", spec := "fnBytesFields", unfollowed := true, recurses := true, named := ["bytes.asciiSpace", "unicode/utf8.first", "unicode/utf8.acceptRanges", "unicode.White_Space"], apart := false, laid := [("unicode/utf8.acceptRanges", laid_unicode_utf8_acceptRanges), ("unicode.White_Space", laid_unicode_White_Space), ("bytes.asciiSpace", laid_bytes_asciiSpace), ("unicode/utf8.first", laid_unicode_utf8_first)], narrowed := true }
def FnBytesFieldsUptoSaid : Prop := fnBytesFieldsUptoRow.holds Tryd.pinned (OpenSpec.upto fnBytesFieldsSpec)

/-- 'laws.FnFieldsByFunc', WHERE WHAT IT READS IS OF BULK AT MOST 1048576: true; the input reads as it did. -/
def fnFieldsByFuncUptoRow : OpenClaim := { program := "ytchkjdopoanjdaadoor", sum := "11b734462a9f34592b4010f91bf59a7524cb666445f59811ad89f43baa5c506c", func := "lib-billhook/laws.FnFieldsByFunc", spec := "fnFieldsByFunc", unfollowed := true, recurses := true, named := ["strings.asciiSpace", "unicode.White_Space", "unicode/utf8.first", "unicode/utf8.acceptRanges"], apart := false, laid := [("unicode/utf8.acceptRanges", laid_unicode_utf8_acceptRanges), ("unicode.White_Space", laid_unicode_White_Space), ("strings.asciiSpace", laid_strings_asciiSpace), ("unicode/utf8.first", laid_unicode_utf8_first)], narrowed := true }
def FnFieldsByFuncUptoSaid : Prop := fnFieldsByFuncUptoRow.holds Tryd.pinned (OpenSpec.upto fnFieldsByFuncSpec)

end Rows
end Go.Proofs.YtchkjdopoanjdaaDoor
