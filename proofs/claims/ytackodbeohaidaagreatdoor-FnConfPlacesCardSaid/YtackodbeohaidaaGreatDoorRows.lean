/-
  NARROWER THAN 'FOR EVERY INPUT', by the rows' own cells (each row's printed sentence says how): FnConf: loops, laid · FnConfBehind: loops, laid · FnConfSize: laid · FnConfStyles: loops, laid · FnConfVariable: loops, laid · FnConfWithin: loops, laid · FnConfPlaces: loops, laid · FnConfRefused: laid.
  DERIVED. THE GIVEN ROWS OF THIS SEAT. 8 by the template 'for every input the law returns true; each argument reads behind the call as it read before'; 0 by the template 'total and deterministic' (their statements: YtackodbeohaidaaGreatDoorTotals.lean).
  GIVEN WITH THE SEED: the statements are not yours to turn. If you find one false, say at which input.
  Laid BY PROGRAM, IN A SANDBOX (cutbox-rows.mjs): the forced cells as the released guide's own fill.sh prints them over the translation 1fc6323141fcbe71… (all of the seat's roots in one cut). By AI agents, Wed Nov 11 2026. No macro, syntax, notation, axiom, sorry.
-/
import Derived.Test.YtackodbeohaidaaGreatDoorChecked
import GoSem.PinnedTables
import GoSem.Claim
import GoSem.ClaimJoined
import GoSem.ClaimMapViews
import Derived.JoinedTies
import Derived.KernelRfl
namespace Go.Proofs.YtackodbeohaidaaGreatDoor
/- THE CELL 'sum', in the pinned program and in every row, IS THE sha256 OF THE DUMP (.gsa) THAT YtackodbeohaidaaGreatDoorProg.lean LOADS. Nothing in Lean hashes anything: it is a label: what it is worth is what the hold of that sum in a sandbox is worth. -/
noncomputable def Tryz.pinned : Pinned := { name := "ytackodbeohaidaagreatdoor", sum := "1fc6323141fcbe718dd534fe930b9bee2badab64784e9f782a3a83b9f98d7ffc", checked := Tryz.checked }
namespace Rows
def none {H : Type} : Left H := { results := [], args := [] }

/- WHAT THE LISTED PACKAGE-LEVEL VARIABLES READ AS WHEN THE CALL BEGINS. Each datum BY PROGRAM (the guide's laid-datum.mjs) off the statement by which the dump's own 'gosem.cut.vars' lays the variable. In a bare row this is a premise. The card (YtackodbeohaidaaGreatDoorCards.lean) ties it to the program's text. -/
def laid_unicode_utf8_acceptRanges {H : Type} : DataW H := .agg [.agg [.lit (.int .u8 128), .lit (.int .u8 191)], .agg [.lit (.int .u8 160), .lit (.int .u8 191)], .agg [.lit (.int .u8 128), .lit (.int .u8 159)], .agg [.lit (.int .u8 144), .lit (.int .u8 191)], .agg [.lit (.int .u8 128), .lit (.int .u8 143)], .agg [.lit (.int .u8 0), .lit (.int .u8 0)], .agg [.lit (.int .u8 0), .lit (.int .u8 0)], .agg [.lit (.int .u8 0), .lit (.int .u8 0)], .agg [.lit (.int .u8 0), .lit (.int .u8 0)], .agg [.lit (.int .u8 0), .lit (.int .u8 0)], .agg [.lit (.int .u8 0), .lit (.int .u8 0)], .agg [.lit (.int .u8 0), .lit (.int .u8 0)], .agg [.lit (.int .u8 0), .lit (.int .u8 0)], .agg [.lit (.int .u8 0), .lit (.int .u8 0)], .agg [.lit (.int .u8 0), .lit (.int .u8 0)], .agg [.lit (.int .u8 0), .lit (.int .u8 0)]]
def laid_unicode_White_Space {H : Type} : DataW H := .ptr (.agg [.slice [.agg [.lit (.int .u16 9), .lit (.int .u16 13), .lit (.int .u16 1)], .agg [.lit (.int .u16 32), .lit (.int .u16 133), .lit (.int .u16 101)], .agg [.lit (.int .u16 160), .lit (.int .u16 5760), .lit (.int .u16 5600)], .agg [.lit (.int .u16 8192), .lit (.int .u16 8202), .lit (.int .u16 1)], .agg [.lit (.int .u16 8232), .lit (.int .u16 8233), .lit (.int .u16 1)], .agg [.lit (.int .u16 8239), .lit (.int .u16 8287), .lit (.int .u16 48)], .agg [.lit (.int .u16 12288), .lit (.int .u16 12288), .lit (.int .u16 1)]] [], .nil, .lit (.int .i64 2)])
def laid_strings_asciiSpace {H : Type} : DataW H := .agg [.lit (.int .u8 0), .lit (.int .u8 0), .lit (.int .u8 0), .lit (.int .u8 0), .lit (.int .u8 0), .lit (.int .u8 0), .lit (.int .u8 0), .lit (.int .u8 0), .lit (.int .u8 0), .lit (.int .u8 1), .lit (.int .u8 1), .lit (.int .u8 1), .lit (.int .u8 1), .lit (.int .u8 1), .lit (.int .u8 0), .lit (.int .u8 0), .lit (.int .u8 0), .lit (.int .u8 0), .lit (.int .u8 0), .lit (.int .u8 0), .lit (.int .u8 0), .lit (.int .u8 0), .lit (.int .u8 0), .lit (.int .u8 0), .lit (.int .u8 0), .lit (.int .u8 0), .lit (.int .u8 0), .lit (.int .u8 0), .lit (.int .u8 0), .lit (.int .u8 0), .lit (.int .u8 0), .lit (.int .u8 0), .lit (.int .u8 1), .lit (.int .u8 0), .lit (.int .u8 0), .lit (.int .u8 0), .lit (.int .u8 0), .lit (.int .u8 0), .lit (.int .u8 0), .lit (.int .u8 0), .lit (.int .u8 0), .lit (.int .u8 0), .lit (.int .u8 0), .lit (.int .u8 0), .lit (.int .u8 0), .lit (.int .u8 0), .lit (.int .u8 0), .lit (.int .u8 0), .lit (.int .u8 0), .lit (.int .u8 0), .lit (.int .u8 0), .lit (.int .u8 0), .lit (.int .u8 0), .lit (.int .u8 0), .lit (.int .u8 0), .lit (.int .u8 0), .lit (.int .u8 0), .lit (.int .u8 0), .lit (.int .u8 0), .lit (.int .u8 0), .lit (.int .u8 0), .lit (.int .u8 0), .lit (.int .u8 0), .lit (.int .u8 0), .lit (.int .u8 0), .lit (.int .u8 0), .lit (.int .u8 0), .lit (.int .u8 0), .lit (.int .u8 0), .lit (.int .u8 0), .lit (.int .u8 0), .lit (.int .u8 0), .lit (.int .u8 0), .lit (.int .u8 0), .lit (.int .u8 0), .lit (.int .u8 0), .lit (.int .u8 0), .lit (.int .u8 0), .lit (.int .u8 0), .lit (.int .u8 0), .lit (.int .u8 0), .lit (.int .u8 0), .lit (.int .u8 0), .lit (.int .u8 0), .lit (.int .u8 0), .lit (.int .u8 0), .lit (.int .u8 0), .lit (.int .u8 0), .lit (.int .u8 0), .lit (.int .u8 0), .lit (.int .u8 0), .lit (.int .u8 0), .lit (.int .u8 0), .lit (.int .u8 0), .lit (.int .u8 0), .lit (.int .u8 0), .lit (.int .u8 0), .lit (.int .u8 0), .lit (.int .u8 0), .lit (.int .u8 0), .lit (.int .u8 0), .lit (.int .u8 0), .lit (.int .u8 0), .lit (.int .u8 0), .lit (.int .u8 0), .lit (.int .u8 0), .lit (.int .u8 0), .lit (.int .u8 0), .lit (.int .u8 0), .lit (.int .u8 0), .lit (.int .u8 0), .lit (.int .u8 0), .lit (.int .u8 0), .lit (.int .u8 0), .lit (.int .u8 0), .lit (.int .u8 0), .lit (.int .u8 0), .lit (.int .u8 0), .lit (.int .u8 0), .lit (.int .u8 0), .lit (.int .u8 0), .lit (.int .u8 0), .lit (.int .u8 0), .lit (.int .u8 0), .lit (.int .u8 0), .lit (.int .u8 0), .lit (.int .u8 0), .lit (.int .u8 0), .lit (.int .u8 0), .lit (.int .u8 0), .lit (.int .u8 0), .lit (.int .u8 0), .lit (.int .u8 0), .lit (.int .u8 0), .lit (.int .u8 0), .lit (.int .u8 0), .lit (.int .u8 0), .lit (.int .u8 0), .lit (.int .u8 0), .lit (.int .u8 0), .lit (.int .u8 0), .lit (.int .u8 0), .lit (.int .u8 0), .lit (.int .u8 0), .lit (.int .u8 0), .lit (.int .u8 0), .lit (.int .u8 0), .lit (.int .u8 0), .lit (.int .u8 0), .lit (.int .u8 0), .lit (.int .u8 0), .lit (.int .u8 0), .lit (.int .u8 0), .lit (.int .u8 0), .lit (.int .u8 0), .lit (.int .u8 0), .lit (.int .u8 0), .lit (.int .u8 0), .lit (.int .u8 0), .lit (.int .u8 0), .lit (.int .u8 0), .lit (.int .u8 0), .lit (.int .u8 0), .lit (.int .u8 0), .lit (.int .u8 0), .lit (.int .u8 0), .lit (.int .u8 0), .lit (.int .u8 0), .lit (.int .u8 0), .lit (.int .u8 0), .lit (.int .u8 0), .lit (.int .u8 0), .lit (.int .u8 0), .lit (.int .u8 0), .lit (.int .u8 0), .lit (.int .u8 0), .lit (.int .u8 0), .lit (.int .u8 0), .lit (.int .u8 0), .lit (.int .u8 0), .lit (.int .u8 0), .lit (.int .u8 0), .lit (.int .u8 0), .lit (.int .u8 0), .lit (.int .u8 0), .lit (.int .u8 0), .lit (.int .u8 0), .lit (.int .u8 0), .lit (.int .u8 0), .lit (.int .u8 0), .lit (.int .u8 0), .lit (.int .u8 0), .lit (.int .u8 0), .lit (.int .u8 0), .lit (.int .u8 0), .lit (.int .u8 0), .lit (.int .u8 0), .lit (.int .u8 0), .lit (.int .u8 0), .lit (.int .u8 0), .lit (.int .u8 0), .lit (.int .u8 0), .lit (.int .u8 0), .lit (.int .u8 0), .lit (.int .u8 0), .lit (.int .u8 0), .lit (.int .u8 0), .lit (.int .u8 0), .lit (.int .u8 0), .lit (.int .u8 0), .lit (.int .u8 0), .lit (.int .u8 0), .lit (.int .u8 0), .lit (.int .u8 0), .lit (.int .u8 0), .lit (.int .u8 0), .lit (.int .u8 0), .lit (.int .u8 0), .lit (.int .u8 0), .lit (.int .u8 0), .lit (.int .u8 0), .lit (.int .u8 0), .lit (.int .u8 0), .lit (.int .u8 0), .lit (.int .u8 0), .lit (.int .u8 0), .lit (.int .u8 0), .lit (.int .u8 0), .lit (.int .u8 0), .lit (.int .u8 0), .lit (.int .u8 0), .lit (.int .u8 0), .lit (.int .u8 0), .lit (.int .u8 0), .lit (.int .u8 0), .lit (.int .u8 0), .lit (.int .u8 0), .lit (.int .u8 0), .lit (.int .u8 0), .lit (.int .u8 0), .lit (.int .u8 0), .lit (.int .u8 0), .lit (.int .u8 0), .lit (.int .u8 0), .lit (.int .u8 0), .lit (.int .u8 0), .lit (.int .u8 0), .lit (.int .u8 0), .lit (.int .u8 0), .lit (.int .u8 0), .lit (.int .u8 0), .lit (.int .u8 0), .lit (.int .u8 0), .lit (.int .u8 0), .lit (.int .u8 0), .lit (.int .u8 0)]
/-- One of Go's own tables, pinned by name: the form's constant. -/
def laid_unicode_CaseRanges : DataW Unit := Go.Pinned.caseRanges
/-- One of Go's own tables, pinned by name: the form's constant. -/
def laid_unicode_Digit : DataW Unit := Go.Pinned.digit
/-- One of Go's own tables, pinned by name: the form's constant. -/
def laid_unicode_utf8_first : DataW Unit := Go.Pinned.utf8First

/-- 'laws.FnConf': WHATEVER THE INPUT: true; the input reads as it did. -/
def fnConfSpec : ChangeSpec := { name := "fnConf", fn := fun _ => fun
  | [d1, d2] => { results := [.lit (.bool true)], args := [d1, d2] }
  | _ => none }
def fnConfRow : OpenClaim := { program := "ytackodbeohaidaagreatdoor", sum := "1fc6323141fcbe718dd534fe930b9bee2badab64784e9f782a3a83b9f98d7ffc", func := "pub-streamkeep/laws.FnConf", spec := "fnConf", inPlace := ["internal/abi.NoEscape", "internal/bytealg.MakeNoZero", "math.Float32frombits", "math.Float64frombits"], unfollowed := true, recurses := true, named := ["unicode/utf8.first", "unicode/utf8.acceptRanges", "unicode.White_Space", "unicode.CaseRanges", "unicode.Digit", "strings.asciiSpace"], loops := true, apart := false, laid := [("unicode/utf8.acceptRanges", laid_unicode_utf8_acceptRanges), ("unicode.White_Space", laid_unicode_White_Space), ("strings.asciiSpace", laid_strings_asciiSpace), ("unicode.CaseRanges", laid_unicode_CaseRanges), ("unicode.Digit", laid_unicode_Digit), ("unicode/utf8.first", laid_unicode_utf8_first)] }
def FnConfSaid : Prop := fnConfRow.holds Tryz.pinned (OpenSpec.ofChange fnConfSpec)

/-- ITS FALSE NEIGHBOUR: 'it returns false'. Refute it at one input. -/
def fnConfWrong : ChangeSpec := { name := "fnConf", fn := fun _ => fun
  | [d1, d2] => { results := [.lit (.bool false)], args := [d1, d2] }
  | _ => none }
def FnConfWrongFalsely : Prop := fnConfRow.holds Tryz.pinned (OpenSpec.ofChange fnConfWrong)

/-- 'laws.FnConfBehind': WHATEVER THE INPUT: true; the input reads as it did. -/
def fnConfBehindSpec : ChangeSpec := { name := "fnConfBehind", fn := fun _ => fun
  | [d1, d2, d3, d4] => { results := [.lit (.bool true)], args := [d1, d2, d3, d4] }
  | _ => none }
def fnConfBehindRow : OpenClaim := { program := "ytackodbeohaidaagreatdoor", sum := "1fc6323141fcbe718dd534fe930b9bee2badab64784e9f782a3a83b9f98d7ffc", func := "pub-streamkeep/laws.FnConfBehind", spec := "fnConfBehind", inPlace := ["internal/abi.NoEscape", "internal/bytealg.MakeNoZero", "math.Float32frombits", "math.Float64frombits"], unfollowed := true, recurses := true, named := ["unicode/utf8.first", "unicode/utf8.acceptRanges", "unicode.White_Space", "unicode.CaseRanges", "unicode.Digit", "strings.asciiSpace"], loops := true, apart := false, laid := [("unicode/utf8.acceptRanges", laid_unicode_utf8_acceptRanges), ("unicode.White_Space", laid_unicode_White_Space), ("strings.asciiSpace", laid_strings_asciiSpace), ("unicode.CaseRanges", laid_unicode_CaseRanges), ("unicode.Digit", laid_unicode_Digit), ("unicode/utf8.first", laid_unicode_utf8_first)] }
def FnConfBehindSaid : Prop := fnConfBehindRow.holds Tryz.pinned (OpenSpec.ofChange fnConfBehindSpec)

/-- ITS FALSE NEIGHBOUR: 'it returns false'. Refute it at one input. -/
def fnConfBehindWrong : ChangeSpec := { name := "fnConfBehind", fn := fun _ => fun
  | [d1, d2, d3, d4] => { results := [.lit (.bool false)], args := [d1, d2, d3, d4] }
  | _ => none }
def FnConfBehindWrongFalsely : Prop := fnConfBehindRow.holds Tryz.pinned (OpenSpec.ofChange fnConfBehindWrong)

/-- 'laws.FnConfSize': WHATEVER THE INPUT: true; the input reads as it did. -/
def fnConfSizeSpec : ChangeSpec := { name := "fnConfSize", fn := fun _ => fun
  | [d1, d2, d3] => { results := [.lit (.bool true)], args := [d1, d2, d3] }
  | _ => none }
def fnConfSizeRow : OpenClaim := { program := "ytackodbeohaidaagreatdoor", sum := "1fc6323141fcbe718dd534fe930b9bee2badab64784e9f782a3a83b9f98d7ffc", func := "pub-streamkeep/laws.FnConfSize", spec := "fnConfSize", inPlace := ["internal/abi.NoEscape", "internal/bytealg.MakeNoZero", "math.Float32frombits", "math.Float64frombits"], unfollowed := true, recurses := true, named := ["unicode/utf8.first", "unicode/utf8.acceptRanges", "unicode.White_Space", "unicode.CaseRanges", "unicode.Digit", "strings.asciiSpace"], apart := false, laid := [("unicode/utf8.acceptRanges", laid_unicode_utf8_acceptRanges), ("unicode.White_Space", laid_unicode_White_Space), ("strings.asciiSpace", laid_strings_asciiSpace), ("unicode.CaseRanges", laid_unicode_CaseRanges), ("unicode.Digit", laid_unicode_Digit), ("unicode/utf8.first", laid_unicode_utf8_first)] }
def FnConfSizeSaid : Prop := fnConfSizeRow.holds Tryz.pinned (OpenSpec.ofChange fnConfSizeSpec)

/-- ITS FALSE NEIGHBOUR: 'it returns false'. Refute it at one input. -/
def fnConfSizeWrong : ChangeSpec := { name := "fnConfSize", fn := fun _ => fun
  | [d1, d2, d3] => { results := [.lit (.bool false)], args := [d1, d2, d3] }
  | _ => none }
def FnConfSizeWrongFalsely : Prop := fnConfSizeRow.holds Tryz.pinned (OpenSpec.ofChange fnConfSizeWrong)

/-- 'laws.FnConfStyles': WHATEVER THE INPUT: true; the input reads as it did. -/
def fnConfStylesSpec : ChangeSpec := { name := "fnConfStyles", fn := fun _ => fun
  | [d1, d2, d3] => { results := [.lit (.bool true)], args := [d1, d2, d3] }
  | _ => none }
def fnConfStylesRow : OpenClaim := { program := "ytackodbeohaidaagreatdoor", sum := "1fc6323141fcbe718dd534fe930b9bee2badab64784e9f782a3a83b9f98d7ffc", func := "pub-streamkeep/laws.FnConfStyles", spec := "fnConfStyles", inPlace := ["internal/abi.NoEscape", "internal/bytealg.MakeNoZero", "math.Float32frombits", "math.Float64frombits"], unfollowed := true, recurses := true, named := ["unicode/utf8.first", "unicode/utf8.acceptRanges", "unicode.White_Space", "unicode.CaseRanges", "unicode.Digit", "strings.asciiSpace"], loops := true, apart := false, laid := [("unicode/utf8.acceptRanges", laid_unicode_utf8_acceptRanges), ("unicode.White_Space", laid_unicode_White_Space), ("strings.asciiSpace", laid_strings_asciiSpace), ("unicode.CaseRanges", laid_unicode_CaseRanges), ("unicode.Digit", laid_unicode_Digit), ("unicode/utf8.first", laid_unicode_utf8_first)] }
def FnConfStylesSaid : Prop := fnConfStylesRow.holds Tryz.pinned (OpenSpec.ofChange fnConfStylesSpec)

/-- ITS FALSE NEIGHBOUR: 'it returns false'. Refute it at one input. -/
def fnConfStylesWrong : ChangeSpec := { name := "fnConfStyles", fn := fun _ => fun
  | [d1, d2, d3] => { results := [.lit (.bool false)], args := [d1, d2, d3] }
  | _ => none }
def FnConfStylesWrongFalsely : Prop := fnConfStylesRow.holds Tryz.pinned (OpenSpec.ofChange fnConfStylesWrong)

/-- 'laws.FnConfVariable': WHATEVER THE INPUT: true; the input reads as it did. -/
def fnConfVariableSpec : ChangeSpec := { name := "fnConfVariable", fn := fun _ => fun
  | [d1, d2] => { results := [.lit (.bool true)], args := [d1, d2] }
  | _ => none }
def fnConfVariableRow : OpenClaim := { program := "ytackodbeohaidaagreatdoor", sum := "1fc6323141fcbe718dd534fe930b9bee2badab64784e9f782a3a83b9f98d7ffc", func := "pub-streamkeep/laws.FnConfVariable", spec := "fnConfVariable", inPlace := ["internal/abi.NoEscape", "internal/bytealg.MakeNoZero", "math.Float32frombits", "math.Float64frombits"], unfollowed := true, recurses := true, named := ["unicode/utf8.first", "unicode/utf8.acceptRanges", "unicode.White_Space", "unicode.CaseRanges", "unicode.Digit", "strings.asciiSpace"], loops := true, apart := false, laid := [("unicode/utf8.acceptRanges", laid_unicode_utf8_acceptRanges), ("unicode.White_Space", laid_unicode_White_Space), ("strings.asciiSpace", laid_strings_asciiSpace), ("unicode.CaseRanges", laid_unicode_CaseRanges), ("unicode.Digit", laid_unicode_Digit), ("unicode/utf8.first", laid_unicode_utf8_first)] }
def FnConfVariableSaid : Prop := fnConfVariableRow.holds Tryz.pinned (OpenSpec.ofChange fnConfVariableSpec)

/-- ITS FALSE NEIGHBOUR: 'it returns false'. Refute it at one input. -/
def fnConfVariableWrong : ChangeSpec := { name := "fnConfVariable", fn := fun _ => fun
  | [d1, d2] => { results := [.lit (.bool false)], args := [d1, d2] }
  | _ => none }
def FnConfVariableWrongFalsely : Prop := fnConfVariableRow.holds Tryz.pinned (OpenSpec.ofChange fnConfVariableWrong)

/-- 'laws.FnConfWithin': WHATEVER THE INPUT: true; the input reads as it did. -/
def fnConfWithinSpec : ChangeSpec := { name := "fnConfWithin", fn := fun _ => fun
  | [d1, d2, d3] => { results := [.lit (.bool true)], args := [d1, d2, d3] }
  | _ => none }
def fnConfWithinRow : OpenClaim := { program := "ytackodbeohaidaagreatdoor", sum := "1fc6323141fcbe718dd534fe930b9bee2badab64784e9f782a3a83b9f98d7ffc", func := "pub-streamkeep/laws.FnConfWithin", spec := "fnConfWithin", inPlace := ["internal/abi.NoEscape", "internal/bytealg.MakeNoZero", "math.Float32frombits", "math.Float64frombits"], unfollowed := true, recurses := true, named := ["unicode/utf8.first", "unicode/utf8.acceptRanges", "unicode.White_Space", "unicode.CaseRanges", "unicode.Digit", "strings.asciiSpace"], loops := true, apart := false, laid := [("unicode/utf8.acceptRanges", laid_unicode_utf8_acceptRanges), ("unicode.White_Space", laid_unicode_White_Space), ("strings.asciiSpace", laid_strings_asciiSpace), ("unicode.CaseRanges", laid_unicode_CaseRanges), ("unicode.Digit", laid_unicode_Digit), ("unicode/utf8.first", laid_unicode_utf8_first)] }
def FnConfWithinSaid : Prop := fnConfWithinRow.holds Tryz.pinned (OpenSpec.ofChange fnConfWithinSpec)

/-- ITS FALSE NEIGHBOUR: 'it returns false'. Refute it at one input. -/
def fnConfWithinWrong : ChangeSpec := { name := "fnConfWithin", fn := fun _ => fun
  | [d1, d2, d3] => { results := [.lit (.bool false)], args := [d1, d2, d3] }
  | _ => none }
def FnConfWithinWrongFalsely : Prop := fnConfWithinRow.holds Tryz.pinned (OpenSpec.ofChange fnConfWithinWrong)

/-- 'laws.FnConfPlaces': WHATEVER THE INPUT: true; the input reads as it did. -/
def fnConfPlacesSpec : ChangeSpec := { name := "fnConfPlaces", fn := fun _ => fun
  | [d1, d2] => { results := [.lit (.bool true)], args := [d1, d2] }
  | _ => none }
def fnConfPlacesRow : OpenClaim := { program := "ytackodbeohaidaagreatdoor", sum := "1fc6323141fcbe718dd534fe930b9bee2badab64784e9f782a3a83b9f98d7ffc", func := "pub-streamkeep/laws.FnConfPlaces", spec := "fnConfPlaces", inPlace := ["internal/abi.NoEscape", "internal/bytealg.MakeNoZero", "math.Float32frombits", "math.Float64frombits"], unfollowed := true, recurses := true, named := ["unicode/utf8.first", "unicode/utf8.acceptRanges", "unicode.White_Space", "unicode.CaseRanges", "unicode.Digit", "strings.asciiSpace"], loops := true, apart := false, laid := [("unicode/utf8.acceptRanges", laid_unicode_utf8_acceptRanges), ("unicode.White_Space", laid_unicode_White_Space), ("strings.asciiSpace", laid_strings_asciiSpace), ("unicode.CaseRanges", laid_unicode_CaseRanges), ("unicode.Digit", laid_unicode_Digit), ("unicode/utf8.first", laid_unicode_utf8_first)] }
def FnConfPlacesSaid : Prop := fnConfPlacesRow.holds Tryz.pinned (OpenSpec.ofChange fnConfPlacesSpec)

/-- ITS FALSE NEIGHBOUR: 'it returns false'. Refute it at one input. -/
def fnConfPlacesWrong : ChangeSpec := { name := "fnConfPlaces", fn := fun _ => fun
  | [d1, d2] => { results := [.lit (.bool false)], args := [d1, d2] }
  | _ => none }
def FnConfPlacesWrongFalsely : Prop := fnConfPlacesRow.holds Tryz.pinned (OpenSpec.ofChange fnConfPlacesWrong)

/-- 'laws.FnConfRefused': WHATEVER THE INPUT: true; the input reads as it did. -/
def fnConfRefusedSpec : ChangeSpec := { name := "fnConfRefused", fn := fun _ => fun
  | [d1, d2] => { results := [.lit (.bool true)], args := [d1, d2] }
  | _ => none }
def fnConfRefusedRow : OpenClaim := { program := "ytackodbeohaidaagreatdoor", sum := "1fc6323141fcbe718dd534fe930b9bee2badab64784e9f782a3a83b9f98d7ffc", func := "pub-streamkeep/laws.FnConfRefused", spec := "fnConfRefused", inPlace := ["internal/abi.NoEscape", "internal/bytealg.MakeNoZero", "math.Float32frombits", "math.Float64frombits"], unfollowed := true, recurses := true, named := ["unicode/utf8.first", "unicode/utf8.acceptRanges", "unicode.White_Space", "unicode.CaseRanges", "unicode.Digit", "strings.asciiSpace"], apart := false, laid := [("unicode/utf8.acceptRanges", laid_unicode_utf8_acceptRanges), ("unicode.White_Space", laid_unicode_White_Space), ("strings.asciiSpace", laid_strings_asciiSpace), ("unicode.CaseRanges", laid_unicode_CaseRanges), ("unicode.Digit", laid_unicode_Digit), ("unicode/utf8.first", laid_unicode_utf8_first)] }
def FnConfRefusedSaid : Prop := fnConfRefusedRow.holds Tryz.pinned (OpenSpec.ofChange fnConfRefusedSpec)

/-- ITS FALSE NEIGHBOUR: 'it returns false'. Refute it at one input. -/
def fnConfRefusedWrong : ChangeSpec := { name := "fnConfRefused", fn := fun _ => fun
  | [d1, d2] => { results := [.lit (.bool false)], args := [d1, d2] }
  | _ => none }
def FnConfRefusedWrongFalsely : Prop := fnConfRefusedRow.holds Tryz.pinned (OpenSpec.ofChange fnConfRefusedWrong)

/- THE SECOND FORM. 'bulk': how many values and letters a reading holds, each counted each time it is reached (what is shared counts as often as it is met; a slice's spare places count too). A statement '..UptoSaid' is the law's where the arguments, and the package variables that the reading takes, are together of bulk at most 1048576: NARROWER than '..Said'. Prove '..Said' where nothing that the law and all that it calls make is longer than what came in: it says more and counts as full. Else prove '..UptoSaid'. A law counts once. -/
mutual
def uptoBulk {H : Type} : DataW H → Nat
  | .lit (.string bytes) => bytes.length + 1
  | .lit _ => 1
  | .nil => 1
  | .ptr d => uptoBulk d + 1
  | .slice elems spare => uptoBulkAll elems + uptoBulkAll spare + 1
  | .agg parts => uptoBulkAll parts + 1
  | .iface _ d => uptoBulk d + 1
  | .map entries => uptoBulkEntries entries + 1
  | .held _ => 1
def uptoBulkAll {H : Type} : List (DataW H) → Nat
  | [] => 0
  | d :: r => uptoBulk d + uptoBulkAll r
def uptoBulkEntries {H : Type} : List (Lit × DataW H) → Nat
  | [] => 0
  | x :: r => uptoBulkEntry x + uptoBulkEntries r
def uptoBulkEntry {H : Type} : Lit × DataW H → Nat
  | (.string bytes, d) => bytes.length + uptoBulk d + 1
  | (_, d) => uptoBulk d + 1
 end
def uptoSmall : (H : Type) → List (DataW H) → Bool := fun _ ds => decide (uptoBulkAll ds ≤ 1048576)
def OpenSpec.upto (s : _root_.Go.ChangeSpec) : _root_.Go.OpenSpec := { _root_.Go.OpenSpec.ofChange s with cond := some uptoSmall }

/-- 'laws.FnConf', WHERE WHAT IT READS IS OF BULK AT MOST 1048576: true; the input reads as it did. -/
def fnConfUptoRow : OpenClaim := { program := "ytackodbeohaidaagreatdoor", sum := "1fc6323141fcbe718dd534fe930b9bee2badab64784e9f782a3a83b9f98d7ffc", func := "pub-streamkeep/laws.FnConf", spec := "fnConf", inPlace := ["internal/abi.NoEscape", "internal/bytealg.MakeNoZero", "math.Float32frombits", "math.Float64frombits"], unfollowed := true, recurses := true, named := ["unicode/utf8.first", "unicode/utf8.acceptRanges", "unicode.White_Space", "unicode.CaseRanges", "unicode.Digit", "strings.asciiSpace"], loops := true, apart := false, laid := [("unicode/utf8.acceptRanges", laid_unicode_utf8_acceptRanges), ("unicode.White_Space", laid_unicode_White_Space), ("strings.asciiSpace", laid_strings_asciiSpace), ("unicode.CaseRanges", laid_unicode_CaseRanges), ("unicode.Digit", laid_unicode_Digit), ("unicode/utf8.first", laid_unicode_utf8_first)], narrowed := true }
def FnConfUptoSaid : Prop := fnConfUptoRow.holds Tryz.pinned (OpenSpec.upto fnConfSpec)

/-- 'laws.FnConfBehind', WHERE WHAT IT READS IS OF BULK AT MOST 1048576: true; the input reads as it did. -/
def fnConfBehindUptoRow : OpenClaim := { program := "ytackodbeohaidaagreatdoor", sum := "1fc6323141fcbe718dd534fe930b9bee2badab64784e9f782a3a83b9f98d7ffc", func := "pub-streamkeep/laws.FnConfBehind", spec := "fnConfBehind", inPlace := ["internal/abi.NoEscape", "internal/bytealg.MakeNoZero", "math.Float32frombits", "math.Float64frombits"], unfollowed := true, recurses := true, named := ["unicode/utf8.first", "unicode/utf8.acceptRanges", "unicode.White_Space", "unicode.CaseRanges", "unicode.Digit", "strings.asciiSpace"], loops := true, apart := false, laid := [("unicode/utf8.acceptRanges", laid_unicode_utf8_acceptRanges), ("unicode.White_Space", laid_unicode_White_Space), ("strings.asciiSpace", laid_strings_asciiSpace), ("unicode.CaseRanges", laid_unicode_CaseRanges), ("unicode.Digit", laid_unicode_Digit), ("unicode/utf8.first", laid_unicode_utf8_first)], narrowed := true }
def FnConfBehindUptoSaid : Prop := fnConfBehindUptoRow.holds Tryz.pinned (OpenSpec.upto fnConfBehindSpec)

/-- 'laws.FnConfSize', WHERE WHAT IT READS IS OF BULK AT MOST 1048576: true; the input reads as it did. -/
def fnConfSizeUptoRow : OpenClaim := { program := "ytackodbeohaidaagreatdoor", sum := "1fc6323141fcbe718dd534fe930b9bee2badab64784e9f782a3a83b9f98d7ffc", func := "pub-streamkeep/laws.FnConfSize", spec := "fnConfSize", inPlace := ["internal/abi.NoEscape", "internal/bytealg.MakeNoZero", "math.Float32frombits", "math.Float64frombits"], unfollowed := true, recurses := true, named := ["unicode/utf8.first", "unicode/utf8.acceptRanges", "unicode.White_Space", "unicode.CaseRanges", "unicode.Digit", "strings.asciiSpace"], apart := false, laid := [("unicode/utf8.acceptRanges", laid_unicode_utf8_acceptRanges), ("unicode.White_Space", laid_unicode_White_Space), ("strings.asciiSpace", laid_strings_asciiSpace), ("unicode.CaseRanges", laid_unicode_CaseRanges), ("unicode.Digit", laid_unicode_Digit), ("unicode/utf8.first", laid_unicode_utf8_first)], narrowed := true }
def FnConfSizeUptoSaid : Prop := fnConfSizeUptoRow.holds Tryz.pinned (OpenSpec.upto fnConfSizeSpec)

/-- 'laws.FnConfStyles', WHERE WHAT IT READS IS OF BULK AT MOST 1048576: true; the input reads as it did. -/
def fnConfStylesUptoRow : OpenClaim := { program := "ytackodbeohaidaagreatdoor", sum := "1fc6323141fcbe718dd534fe930b9bee2badab64784e9f782a3a83b9f98d7ffc", func := "pub-streamkeep/laws.FnConfStyles", spec := "fnConfStyles", inPlace := ["internal/abi.NoEscape", "internal/bytealg.MakeNoZero", "math.Float32frombits", "math.Float64frombits"], unfollowed := true, recurses := true, named := ["unicode/utf8.first", "unicode/utf8.acceptRanges", "unicode.White_Space", "unicode.CaseRanges", "unicode.Digit", "strings.asciiSpace"], loops := true, apart := false, laid := [("unicode/utf8.acceptRanges", laid_unicode_utf8_acceptRanges), ("unicode.White_Space", laid_unicode_White_Space), ("strings.asciiSpace", laid_strings_asciiSpace), ("unicode.CaseRanges", laid_unicode_CaseRanges), ("unicode.Digit", laid_unicode_Digit), ("unicode/utf8.first", laid_unicode_utf8_first)], narrowed := true }
def FnConfStylesUptoSaid : Prop := fnConfStylesUptoRow.holds Tryz.pinned (OpenSpec.upto fnConfStylesSpec)

/-- 'laws.FnConfVariable', WHERE WHAT IT READS IS OF BULK AT MOST 1048576: true; the input reads as it did. -/
def fnConfVariableUptoRow : OpenClaim := { program := "ytackodbeohaidaagreatdoor", sum := "1fc6323141fcbe718dd534fe930b9bee2badab64784e9f782a3a83b9f98d7ffc", func := "pub-streamkeep/laws.FnConfVariable", spec := "fnConfVariable", inPlace := ["internal/abi.NoEscape", "internal/bytealg.MakeNoZero", "math.Float32frombits", "math.Float64frombits"], unfollowed := true, recurses := true, named := ["unicode/utf8.first", "unicode/utf8.acceptRanges", "unicode.White_Space", "unicode.CaseRanges", "unicode.Digit", "strings.asciiSpace"], loops := true, apart := false, laid := [("unicode/utf8.acceptRanges", laid_unicode_utf8_acceptRanges), ("unicode.White_Space", laid_unicode_White_Space), ("strings.asciiSpace", laid_strings_asciiSpace), ("unicode.CaseRanges", laid_unicode_CaseRanges), ("unicode.Digit", laid_unicode_Digit), ("unicode/utf8.first", laid_unicode_utf8_first)], narrowed := true }
def FnConfVariableUptoSaid : Prop := fnConfVariableUptoRow.holds Tryz.pinned (OpenSpec.upto fnConfVariableSpec)

/-- 'laws.FnConfWithin', WHERE WHAT IT READS IS OF BULK AT MOST 1048576: true; the input reads as it did. -/
def fnConfWithinUptoRow : OpenClaim := { program := "ytackodbeohaidaagreatdoor", sum := "1fc6323141fcbe718dd534fe930b9bee2badab64784e9f782a3a83b9f98d7ffc", func := "pub-streamkeep/laws.FnConfWithin", spec := "fnConfWithin", inPlace := ["internal/abi.NoEscape", "internal/bytealg.MakeNoZero", "math.Float32frombits", "math.Float64frombits"], unfollowed := true, recurses := true, named := ["unicode/utf8.first", "unicode/utf8.acceptRanges", "unicode.White_Space", "unicode.CaseRanges", "unicode.Digit", "strings.asciiSpace"], loops := true, apart := false, laid := [("unicode/utf8.acceptRanges", laid_unicode_utf8_acceptRanges), ("unicode.White_Space", laid_unicode_White_Space), ("strings.asciiSpace", laid_strings_asciiSpace), ("unicode.CaseRanges", laid_unicode_CaseRanges), ("unicode.Digit", laid_unicode_Digit), ("unicode/utf8.first", laid_unicode_utf8_first)], narrowed := true }
def FnConfWithinUptoSaid : Prop := fnConfWithinUptoRow.holds Tryz.pinned (OpenSpec.upto fnConfWithinSpec)

/-- 'laws.FnConfPlaces', WHERE WHAT IT READS IS OF BULK AT MOST 1048576: true; the input reads as it did. -/
def fnConfPlacesUptoRow : OpenClaim := { program := "ytackodbeohaidaagreatdoor", sum := "1fc6323141fcbe718dd534fe930b9bee2badab64784e9f782a3a83b9f98d7ffc", func := "pub-streamkeep/laws.FnConfPlaces", spec := "fnConfPlaces", inPlace := ["internal/abi.NoEscape", "internal/bytealg.MakeNoZero", "math.Float32frombits", "math.Float64frombits"], unfollowed := true, recurses := true, named := ["unicode/utf8.first", "unicode/utf8.acceptRanges", "unicode.White_Space", "unicode.CaseRanges", "unicode.Digit", "strings.asciiSpace"], loops := true, apart := false, laid := [("unicode/utf8.acceptRanges", laid_unicode_utf8_acceptRanges), ("unicode.White_Space", laid_unicode_White_Space), ("strings.asciiSpace", laid_strings_asciiSpace), ("unicode.CaseRanges", laid_unicode_CaseRanges), ("unicode.Digit", laid_unicode_Digit), ("unicode/utf8.first", laid_unicode_utf8_first)], narrowed := true }
def FnConfPlacesUptoSaid : Prop := fnConfPlacesUptoRow.holds Tryz.pinned (OpenSpec.upto fnConfPlacesSpec)

/-- 'laws.FnConfRefused', WHERE WHAT IT READS IS OF BULK AT MOST 1048576: true; the input reads as it did. -/
def fnConfRefusedUptoRow : OpenClaim := { program := "ytackodbeohaidaagreatdoor", sum := "1fc6323141fcbe718dd534fe930b9bee2badab64784e9f782a3a83b9f98d7ffc", func := "pub-streamkeep/laws.FnConfRefused", spec := "fnConfRefused", inPlace := ["internal/abi.NoEscape", "internal/bytealg.MakeNoZero", "math.Float32frombits", "math.Float64frombits"], unfollowed := true, recurses := true, named := ["unicode/utf8.first", "unicode/utf8.acceptRanges", "unicode.White_Space", "unicode.CaseRanges", "unicode.Digit", "strings.asciiSpace"], apart := false, laid := [("unicode/utf8.acceptRanges", laid_unicode_utf8_acceptRanges), ("unicode.White_Space", laid_unicode_White_Space), ("strings.asciiSpace", laid_strings_asciiSpace), ("unicode.CaseRanges", laid_unicode_CaseRanges), ("unicode.Digit", laid_unicode_Digit), ("unicode/utf8.first", laid_unicode_utf8_first)], narrowed := true }
def FnConfRefusedUptoSaid : Prop := fnConfRefusedUptoRow.holds Tryz.pinned (OpenSpec.upto fnConfRefusedSpec)

end Rows
end Go.Proofs.YtackodbeohaidaaGreatDoor
