/-
  NARROWER THAN 'FOR EVERY INPUT', by the rows' own cells (each row's printed sentence says how): FnZDurationBack: laid · FnZPresets: laid · FnZSafe: laid · FnZLayoutParts: laid · FnZLayouts: laid · FnZTimeOrder: laid · FnZNamed: laid · FnZMulti: laid · FnZBuffers: laid · FnZBuffersAll: laid.
  DERIVED. THE GIVEN ROWS OF THIS SEAT. 10 by the template 'for every input the law returns true; each argument reads behind the call as it read before'; 0 by the template 'total and deterministic' (their statements: YtchmhdmapknmfaaGreatDoorTotals.lean).
  GIVEN WITH THE SEED: the statements are not yours to turn. If you find one false, say at which input.
  Laid BY PROGRAM, IN A SANDBOX (cutbox-rows.mjs): the forced cells as the released guide's own fill.sh prints them over the translation 9ee102410c8a83ab… (all of the seat's roots in one cut). By AI agents, Wed Nov 11 2026. No macro, syntax, notation, axiom, sorry.
-/
import Derived.Test.YtchmhdmapknmfaaGreatDoorChecked
import GoSem.PinnedTables
import GoSem.Claim
import GoSem.ClaimJoined
import GoSem.ClaimMapViews
import Derived.JoinedTies
import Derived.KernelRfl
namespace Go.Proofs.YtchmhdmapknmfaaGreatDoor
/- THE CELL 'sum', in the pinned program and in every row, IS THE sha256 OF THE DUMP (.gsa) THAT YtchmhdmapknmfaaGreatDoorProg.lean LOADS. Nothing in Lean hashes anything: it is a label: what it is worth is what the hold of that sum in a sandbox is worth. -/
noncomputable def Tryz.pinned : Pinned := { name := "ytchmhdmapknmfaagreatdoor", sum := "9ee102410c8a83ab1d0adc55525722376557aed615312c97f81ee398c653b0ee", checked := Tryz.checked }
namespace Rows
def none {H : Type} : Left H := { results := [], args := [] }

/- WHAT THE LISTED PACKAGE-LEVEL VARIABLES READ AS WHEN THE CALL BEGINS. Each datum BY PROGRAM (the guide's laid-datum.mjs) off the statement by which the dump's own 'gosem.cut.vars' lays the variable. In a bare row this is a premise. The card (YtchmhdmapknmfaaGreatDoorCards.lean) ties it to the program's text. -/
def laid_math_bits_deBruijn32tab {H : Type} : DataW H := .agg [.lit (.int .u8 0), .lit (.int .u8 1), .lit (.int .u8 28), .lit (.int .u8 2), .lit (.int .u8 29), .lit (.int .u8 14), .lit (.int .u8 24), .lit (.int .u8 3), .lit (.int .u8 30), .lit (.int .u8 22), .lit (.int .u8 20), .lit (.int .u8 15), .lit (.int .u8 25), .lit (.int .u8 17), .lit (.int .u8 4), .lit (.int .u8 8), .lit (.int .u8 31), .lit (.int .u8 27), .lit (.int .u8 13), .lit (.int .u8 23), .lit (.int .u8 21), .lit (.int .u8 19), .lit (.int .u8 16), .lit (.int .u8 7), .lit (.int .u8 26), .lit (.int .u8 12), .lit (.int .u8 18), .lit (.int .u8 6), .lit (.int .u8 11), .lit (.int .u8 5), .lit (.int .u8 10), .lit (.int .u8 9)]
def laid_math_bits_deBruijn64tab {H : Type} : DataW H := .agg [.lit (.int .u8 0), .lit (.int .u8 1), .lit (.int .u8 56), .lit (.int .u8 2), .lit (.int .u8 57), .lit (.int .u8 49), .lit (.int .u8 28), .lit (.int .u8 3), .lit (.int .u8 61), .lit (.int .u8 58), .lit (.int .u8 42), .lit (.int .u8 50), .lit (.int .u8 38), .lit (.int .u8 29), .lit (.int .u8 17), .lit (.int .u8 4), .lit (.int .u8 62), .lit (.int .u8 47), .lit (.int .u8 59), .lit (.int .u8 36), .lit (.int .u8 45), .lit (.int .u8 43), .lit (.int .u8 51), .lit (.int .u8 22), .lit (.int .u8 53), .lit (.int .u8 39), .lit (.int .u8 33), .lit (.int .u8 30), .lit (.int .u8 24), .lit (.int .u8 18), .lit (.int .u8 12), .lit (.int .u8 5), .lit (.int .u8 63), .lit (.int .u8 55), .lit (.int .u8 48), .lit (.int .u8 27), .lit (.int .u8 60), .lit (.int .u8 41), .lit (.int .u8 37), .lit (.int .u8 16), .lit (.int .u8 46), .lit (.int .u8 35), .lit (.int .u8 44), .lit (.int .u8 21), .lit (.int .u8 52), .lit (.int .u8 32), .lit (.int .u8 23), .lit (.int .u8 11), .lit (.int .u8 54), .lit (.int .u8 26), .lit (.int .u8 40), .lit (.int .u8 15), .lit (.int .u8 34), .lit (.int .u8 20), .lit (.int .u8 31), .lit (.int .u8 10), .lit (.int .u8 25), .lit (.int .u8 14), .lit (.int .u8 19), .lit (.int .u8 9), .lit (.int .u8 13), .lit (.int .u8 8), .lit (.int .u8 7), .lit (.int .u8 6)]
def laid_given_example_pub_quill_pub_ztime_std0x {H : Type} : DataW H := .agg [.lit (.int .i64 260), .lit (.int .i64 265), .lit (.int .i64 1038), .lit (.int .i64 1040), .lit (.int .i64 1042), .lit (.int .i64 276)]
def laid_given_example_pub_quill_pub_ztime_longDayNames {H : Type} : DataW H := .slice [.lit (.string [83, 117, 110, 100, 97, 121]), .lit (.string [77, 111, 110, 100, 97, 121]), .lit (.string [84, 117, 101, 115, 100, 97, 121]), .lit (.string [87, 101, 100, 110, 101, 115, 100, 97, 121]), .lit (.string [84, 104, 117, 114, 115, 100, 97, 121]), .lit (.string [70, 114, 105, 100, 97, 121]), .lit (.string [83, 97, 116, 117, 114, 100, 97, 121])] []
def laid_given_example_pub_quill_pub_ztime_longMonthNames {H : Type} : DataW H := .slice [.lit (.string [74, 97, 110, 117, 97, 114, 121]), .lit (.string [70, 101, 98, 114, 117, 97, 114, 121]), .lit (.string [77, 97, 114, 99, 104]), .lit (.string [65, 112, 114, 105, 108]), .lit (.string [77, 97, 121]), .lit (.string [74, 117, 110, 101]), .lit (.string [74, 117, 108, 121]), .lit (.string [65, 117, 103, 117, 115, 116]), .lit (.string [83, 101, 112, 116, 101, 109, 98, 101, 114]), .lit (.string [79, 99, 116, 111, 98, 101, 114]), .lit (.string [78, 111, 118, 101, 109, 98, 101, 114]), .lit (.string [68, 101, 99, 101, 109, 98, 101, 114])] []
def laid_internal_strconv_uint64pow10 {H : Type} : DataW H := .agg [.lit (.int .u64 1), .lit (.int .u64 10), .lit (.int .u64 100), .lit (.int .u64 1000), .lit (.int .u64 10000), .lit (.int .u64 100000), .lit (.int .u64 1000000), .lit (.int .u64 10000000), .lit (.int .u64 100000000), .lit (.int .u64 1000000000), .lit (.int .u64 10000000000), .lit (.int .u64 100000000000), .lit (.int .u64 1000000000000), .lit (.int .u64 10000000000000), .lit (.int .u64 100000000000000), .lit (.int .u64 1000000000000000), .lit (.int .u64 10000000000000000), .lit (.int .u64 100000000000000000), .lit (.int .u64 1000000000000000000), .lit (.int .u64 10000000000000000000)]
def laid_unicode_utf8_acceptRanges {H : Type} : DataW H := .agg [.agg [.lit (.int .u8 128), .lit (.int .u8 191)], .agg [.lit (.int .u8 160), .lit (.int .u8 191)], .agg [.lit (.int .u8 128), .lit (.int .u8 159)], .agg [.lit (.int .u8 144), .lit (.int .u8 191)], .agg [.lit (.int .u8 128), .lit (.int .u8 143)], .agg [.lit (.int .u8 0), .lit (.int .u8 0)], .agg [.lit (.int .u8 0), .lit (.int .u8 0)], .agg [.lit (.int .u8 0), .lit (.int .u8 0)], .agg [.lit (.int .u8 0), .lit (.int .u8 0)], .agg [.lit (.int .u8 0), .lit (.int .u8 0)], .agg [.lit (.int .u8 0), .lit (.int .u8 0)], .agg [.lit (.int .u8 0), .lit (.int .u8 0)], .agg [.lit (.int .u8 0), .lit (.int .u8 0)], .agg [.lit (.int .u8 0), .lit (.int .u8 0)], .agg [.lit (.int .u8 0), .lit (.int .u8 0)], .agg [.lit (.int .u8 0), .lit (.int .u8 0)]]
/-- One of Go's own tables, pinned by name: the form's constant. -/
def laid_unicode_utf8_first : DataW Unit := Go.Pinned.utf8First
def laid_given_example_pub_quill_spec_zChunks {H : Type} : DataW H := .slice [.lit (.string [74, 97, 110, 117, 97, 114, 121]), .lit (.string [74, 97, 110]), .lit (.string [77, 111, 110, 100, 97, 121]), .lit (.string [77, 111, 110]), .lit (.string [77, 83, 84]), .lit (.string [48, 48, 50]), .lit (.string [48, 49]), .lit (.string [48, 50]), .lit (.string [48, 51]), .lit (.string [48, 52]), .lit (.string [48, 53]), .lit (.string [48, 54]), .lit (.string [49, 53]), .lit (.string [49]), .lit (.string [50, 48, 48, 54]), .lit (.string [50]), .lit (.string [95, 95, 50]), .lit (.string [95, 50]), .lit (.string [51]), .lit (.string [52]), .lit (.string [53]), .lit (.string [80, 77]), .lit (.string [112, 109]), .lit (.string [45, 48, 55, 48, 48, 48, 48]), .lit (.string [45, 48, 55, 58, 48, 48, 58, 48, 48]), .lit (.string [45, 48, 55, 48, 48]), .lit (.string [45, 48, 55, 58, 48, 48]), .lit (.string [45, 48, 55]), .lit (.string [90, 48, 55, 48, 48, 48, 48]), .lit (.string [90, 48, 55, 58, 48, 48, 58, 48, 48]), .lit (.string [90, 48, 55, 48, 48]), .lit (.string [90, 48, 55, 58, 48, 48]), .lit (.string [90, 48, 55])] []
def laid_io_ErrShortWrite {H : Type} : DataW H := .iface "*errors.errorString" (.ptr (.agg [.lit (.string [115, 104, 111, 114, 116, 32, 119, 114, 105, 116, 101])]))

/-- 'laws.FnZDurationBack': WHATEVER THE INPUT: true; the input reads as it did. -/
def fnZDurationBackSpec : ChangeSpec := { name := "fnZDurationBack", vars := ["given.example/pub-quill/pub/ztime.std0x", "given.example/pub-quill/pub/ztime.longMonthNames", "given.example/pub-quill/pub/ztime.longDayNames"], fn := fun _ => fun
  | [d, g1, g2, g3] => { results := [.lit (.bool true)], args := [d], vars := [g1, g2, g3] }
  | _ => none }
def fnZDurationBackRow : OpenClaim := { program := "ytchmhdmapknmfaagreatdoor", sum := "9ee102410c8a83ab1d0adc55525722376557aed615312c97f81ee398c653b0ee", func := "given.example/pub-quill/laws.FnZDurationBack", spec := "fnZDurationBack", unfollowed := true, recurses := true, named := ["internal/strconv.uint64pow10", "math/bits.deBruijn32tab", "math/bits.deBruijn64tab", "given.example/pub-quill/pub/ztime.std0x", "given.example/pub-quill/pub/ztime.longMonthNames", "given.example/pub-quill/pub/ztime.longDayNames", "unicode/utf8.first", "unicode/utf8.acceptRanges"], apart := false, laid := [("math/bits.deBruijn32tab", laid_math_bits_deBruijn32tab), ("math/bits.deBruijn64tab", laid_math_bits_deBruijn64tab), ("given.example/pub-quill/pub/ztime.std0x", laid_given_example_pub_quill_pub_ztime_std0x), ("given.example/pub-quill/pub/ztime.longDayNames", laid_given_example_pub_quill_pub_ztime_longDayNames), ("given.example/pub-quill/pub/ztime.longMonthNames", laid_given_example_pub_quill_pub_ztime_longMonthNames), ("internal/strconv.uint64pow10", laid_internal_strconv_uint64pow10), ("unicode/utf8.acceptRanges", laid_unicode_utf8_acceptRanges), ("unicode/utf8.first", laid_unicode_utf8_first)] }
def FnZDurationBackSaid : Prop := fnZDurationBackRow.holds Tryz.pinned (OpenSpec.ofChange fnZDurationBackSpec)

/-- ITS FALSE NEIGHBOUR: 'it returns false'. Refute it at one input. -/
def fnZDurationBackWrong : ChangeSpec := { name := "fnZDurationBack", vars := ["given.example/pub-quill/pub/ztime.std0x", "given.example/pub-quill/pub/ztime.longMonthNames", "given.example/pub-quill/pub/ztime.longDayNames"], fn := fun _ => fun
  | [d, g1, g2, g3] => { results := [.lit (.bool false)], args := [d], vars := [g1, g2, g3] }
  | _ => none }
def FnZDurationBackWrongFalsely : Prop := fnZDurationBackRow.holds Tryz.pinned (OpenSpec.ofChange fnZDurationBackWrong)

/-- 'laws.FnZPresets': WHATEVER THE INPUT: true; the input reads as it did. -/
def fnZPresetsSpec : ChangeSpec := { name := "fnZPresets", vars := ["given.example/pub-quill/pub/ztime.std0x", "given.example/pub-quill/pub/ztime.longMonthNames", "given.example/pub-quill/pub/ztime.longDayNames"], fn := fun _ => fun
  | [g1, g2, g3] => { results := [.lit (.bool true)], args := [], vars := [g1, g2, g3] }
  | _ => none }
def fnZPresetsRow : OpenClaim := { program := "ytchmhdmapknmfaagreatdoor", sum := "9ee102410c8a83ab1d0adc55525722376557aed615312c97f81ee398c653b0ee", func := "given.example/pub-quill/laws.FnZPresets", spec := "fnZPresets", unfollowed := true, recurses := true, named := ["internal/strconv.uint64pow10", "math/bits.deBruijn32tab", "math/bits.deBruijn64tab", "given.example/pub-quill/pub/ztime.std0x", "given.example/pub-quill/pub/ztime.longMonthNames", "given.example/pub-quill/pub/ztime.longDayNames"], apart := false, laid := [("math/bits.deBruijn32tab", laid_math_bits_deBruijn32tab), ("math/bits.deBruijn64tab", laid_math_bits_deBruijn64tab), ("given.example/pub-quill/pub/ztime.std0x", laid_given_example_pub_quill_pub_ztime_std0x), ("given.example/pub-quill/pub/ztime.longDayNames", laid_given_example_pub_quill_pub_ztime_longDayNames), ("given.example/pub-quill/pub/ztime.longMonthNames", laid_given_example_pub_quill_pub_ztime_longMonthNames), ("internal/strconv.uint64pow10", laid_internal_strconv_uint64pow10)] }
def FnZPresetsSaid : Prop := fnZPresetsRow.holds Tryz.pinned (OpenSpec.ofChange fnZPresetsSpec)

/-- ITS FALSE NEIGHBOUR: 'it returns false'. Refute it at one input. -/
def fnZPresetsWrong : ChangeSpec := { name := "fnZPresets", vars := ["given.example/pub-quill/pub/ztime.std0x", "given.example/pub-quill/pub/ztime.longMonthNames", "given.example/pub-quill/pub/ztime.longDayNames"], fn := fun _ => fun
  | [g1, g2, g3] => { results := [.lit (.bool false)], args := [], vars := [g1, g2, g3] }
  | _ => none }
def FnZPresetsWrongFalsely : Prop := fnZPresetsRow.holds Tryz.pinned (OpenSpec.ofChange fnZPresetsWrong)

/-- 'laws.FnZSafe': WHATEVER THE INPUT: true; the input reads as it did. -/
def fnZSafeSpec : ChangeSpec := { name := "fnZSafe", vars := ["given.example/pub-quill/pub/ztime.std0x", "given.example/pub-quill/pub/ztime.longMonthNames", "given.example/pub-quill/pub/ztime.longDayNames"], fn := fun _ => fun
  | [d, g1, g2, g3] => { results := [.lit (.bool true)], args := [d], vars := [g1, g2, g3] }
  | _ => none }
def fnZSafeRow : OpenClaim := { program := "ytchmhdmapknmfaagreatdoor", sum := "9ee102410c8a83ab1d0adc55525722376557aed615312c97f81ee398c653b0ee", func := "given.example/pub-quill/laws.FnZSafe", spec := "fnZSafe", unfollowed := true, recurses := true, named := ["internal/strconv.uint64pow10", "math/bits.deBruijn32tab", "math/bits.deBruijn64tab", "given.example/pub-quill/pub/ztime.std0x", "given.example/pub-quill/pub/ztime.longMonthNames", "given.example/pub-quill/pub/ztime.longDayNames", "unicode/utf8.first", "unicode/utf8.acceptRanges"], apart := false, laid := [("math/bits.deBruijn32tab", laid_math_bits_deBruijn32tab), ("math/bits.deBruijn64tab", laid_math_bits_deBruijn64tab), ("given.example/pub-quill/pub/ztime.std0x", laid_given_example_pub_quill_pub_ztime_std0x), ("given.example/pub-quill/pub/ztime.longDayNames", laid_given_example_pub_quill_pub_ztime_longDayNames), ("given.example/pub-quill/pub/ztime.longMonthNames", laid_given_example_pub_quill_pub_ztime_longMonthNames), ("internal/strconv.uint64pow10", laid_internal_strconv_uint64pow10), ("unicode/utf8.acceptRanges", laid_unicode_utf8_acceptRanges), ("unicode/utf8.first", laid_unicode_utf8_first)] }
def FnZSafeSaid : Prop := fnZSafeRow.holds Tryz.pinned (OpenSpec.ofChange fnZSafeSpec)

/-- ITS FALSE NEIGHBOUR: 'it returns false'. Refute it at one input. -/
def fnZSafeWrong : ChangeSpec := { name := "fnZSafe", vars := ["given.example/pub-quill/pub/ztime.std0x", "given.example/pub-quill/pub/ztime.longMonthNames", "given.example/pub-quill/pub/ztime.longDayNames"], fn := fun _ => fun
  | [d, g1, g2, g3] => { results := [.lit (.bool false)], args := [d], vars := [g1, g2, g3] }
  | _ => none }
def FnZSafeWrongFalsely : Prop := fnZSafeRow.holds Tryz.pinned (OpenSpec.ofChange fnZSafeWrong)

/-- 'laws.FnZLayoutParts': WHATEVER THE INPUT: true; the input reads as it did. -/
def fnZLayoutPartsSpec : ChangeSpec := { name := "fnZLayoutParts", vars := ["given.example/pub-quill/pub/ztime.std0x", "given.example/pub-quill/pub/ztime.longMonthNames", "given.example/pub-quill/pub/ztime.longDayNames"], fn := fun _ => fun
  | [d1, d2, d3, g1, g2, g3] => { results := [.lit (.bool true)], args := [d1, d2, d3], vars := [g1, g2, g3] }
  | _ => none }
def fnZLayoutPartsRow : OpenClaim := { program := "ytchmhdmapknmfaagreatdoor", sum := "9ee102410c8a83ab1d0adc55525722376557aed615312c97f81ee398c653b0ee", func := "given.example/pub-quill/laws.FnZLayoutParts", spec := "fnZLayoutParts", unfollowed := true, recurses := true, named := ["internal/strconv.uint64pow10", "math/bits.deBruijn32tab", "math/bits.deBruijn64tab", "given.example/pub-quill/pub/ztime.std0x", "given.example/pub-quill/pub/ztime.longMonthNames", "given.example/pub-quill/pub/ztime.longDayNames"], apart := false, laid := [("math/bits.deBruijn32tab", laid_math_bits_deBruijn32tab), ("math/bits.deBruijn64tab", laid_math_bits_deBruijn64tab), ("given.example/pub-quill/pub/ztime.std0x", laid_given_example_pub_quill_pub_ztime_std0x), ("given.example/pub-quill/pub/ztime.longDayNames", laid_given_example_pub_quill_pub_ztime_longDayNames), ("given.example/pub-quill/pub/ztime.longMonthNames", laid_given_example_pub_quill_pub_ztime_longMonthNames), ("internal/strconv.uint64pow10", laid_internal_strconv_uint64pow10)] }
def FnZLayoutPartsSaid : Prop := fnZLayoutPartsRow.holds Tryz.pinned (OpenSpec.ofChange fnZLayoutPartsSpec)

/-- ITS FALSE NEIGHBOUR: 'it returns false'. Refute it at one input. -/
def fnZLayoutPartsWrong : ChangeSpec := { name := "fnZLayoutParts", vars := ["given.example/pub-quill/pub/ztime.std0x", "given.example/pub-quill/pub/ztime.longMonthNames", "given.example/pub-quill/pub/ztime.longDayNames"], fn := fun _ => fun
  | [d1, d2, d3, g1, g2, g3] => { results := [.lit (.bool false)], args := [d1, d2, d3], vars := [g1, g2, g3] }
  | _ => none }
def FnZLayoutPartsWrongFalsely : Prop := fnZLayoutPartsRow.holds Tryz.pinned (OpenSpec.ofChange fnZLayoutPartsWrong)

/-- 'laws.FnZLayouts': WHATEVER THE INPUT: true; the input reads as it did. -/
def fnZLayoutsSpec : ChangeSpec := { name := "fnZLayouts", vars := ["given.example/pub-quill/pub/ztime.std0x", "given.example/pub-quill/pub/ztime.longMonthNames", "given.example/pub-quill/pub/ztime.longDayNames", "given.example/pub-quill/spec.zChunks"], fn := fun _ => fun
  | [d1, d2, g1, g2, g3, g4] => { results := [.lit (.bool true)], args := [d1, d2], vars := [g1, g2, g3, g4] }
  | _ => none }
def fnZLayoutsRow : OpenClaim := { program := "ytchmhdmapknmfaagreatdoor", sum := "9ee102410c8a83ab1d0adc55525722376557aed615312c97f81ee398c653b0ee", func := "given.example/pub-quill/laws.FnZLayouts", spec := "fnZLayouts", unfollowed := true, recurses := true, named := ["internal/strconv.uint64pow10", "math/bits.deBruijn32tab", "math/bits.deBruijn64tab", "given.example/pub-quill/pub/ztime.std0x", "given.example/pub-quill/pub/ztime.longMonthNames", "given.example/pub-quill/pub/ztime.longDayNames", "given.example/pub-quill/spec.zChunks"], apart := false, laid := [("math/bits.deBruijn32tab", laid_math_bits_deBruijn32tab), ("math/bits.deBruijn64tab", laid_math_bits_deBruijn64tab), ("given.example/pub-quill/pub/ztime.std0x", laid_given_example_pub_quill_pub_ztime_std0x), ("given.example/pub-quill/pub/ztime.longDayNames", laid_given_example_pub_quill_pub_ztime_longDayNames), ("given.example/pub-quill/pub/ztime.longMonthNames", laid_given_example_pub_quill_pub_ztime_longMonthNames), ("internal/strconv.uint64pow10", laid_internal_strconv_uint64pow10), ("given.example/pub-quill/spec.zChunks", laid_given_example_pub_quill_spec_zChunks)] }
def FnZLayoutsSaid : Prop := fnZLayoutsRow.holds Tryz.pinned (OpenSpec.ofChange fnZLayoutsSpec)

/-- ITS FALSE NEIGHBOUR: 'it returns false'. Refute it at one input. -/
def fnZLayoutsWrong : ChangeSpec := { name := "fnZLayouts", vars := ["given.example/pub-quill/pub/ztime.std0x", "given.example/pub-quill/pub/ztime.longMonthNames", "given.example/pub-quill/pub/ztime.longDayNames", "given.example/pub-quill/spec.zChunks"], fn := fun _ => fun
  | [d1, d2, g1, g2, g3, g4] => { results := [.lit (.bool false)], args := [d1, d2], vars := [g1, g2, g3, g4] }
  | _ => none }
def FnZLayoutsWrongFalsely : Prop := fnZLayoutsRow.holds Tryz.pinned (OpenSpec.ofChange fnZLayoutsWrong)

/-- 'laws.FnZTimeOrder': WHATEVER THE INPUT: true; the input reads as it did. -/
def fnZTimeOrderSpec : ChangeSpec := { name := "fnZTimeOrder", vars := ["given.example/pub-quill/pub/ztime.std0x", "given.example/pub-quill/pub/ztime.longMonthNames", "given.example/pub-quill/pub/ztime.longDayNames"], fn := fun _ => fun
  | [d1, d2, g1, g2, g3] => { results := [.lit (.bool true)], args := [d1, d2], vars := [g1, g2, g3] }
  | _ => none }
def fnZTimeOrderRow : OpenClaim := { program := "ytchmhdmapknmfaagreatdoor", sum := "9ee102410c8a83ab1d0adc55525722376557aed615312c97f81ee398c653b0ee", func := "given.example/pub-quill/laws.FnZTimeOrder", spec := "fnZTimeOrder", unfollowed := true, recurses := true, named := ["internal/strconv.uint64pow10", "math/bits.deBruijn32tab", "math/bits.deBruijn64tab", "given.example/pub-quill/pub/ztime.std0x", "given.example/pub-quill/pub/ztime.longMonthNames", "given.example/pub-quill/pub/ztime.longDayNames"], apart := false, laid := [("math/bits.deBruijn32tab", laid_math_bits_deBruijn32tab), ("math/bits.deBruijn64tab", laid_math_bits_deBruijn64tab), ("given.example/pub-quill/pub/ztime.std0x", laid_given_example_pub_quill_pub_ztime_std0x), ("given.example/pub-quill/pub/ztime.longDayNames", laid_given_example_pub_quill_pub_ztime_longDayNames), ("given.example/pub-quill/pub/ztime.longMonthNames", laid_given_example_pub_quill_pub_ztime_longMonthNames), ("internal/strconv.uint64pow10", laid_internal_strconv_uint64pow10)] }
def FnZTimeOrderSaid : Prop := fnZTimeOrderRow.holds Tryz.pinned (OpenSpec.ofChange fnZTimeOrderSpec)

/-- ITS FALSE NEIGHBOUR: 'it returns false'. Refute it at one input. -/
def fnZTimeOrderWrong : ChangeSpec := { name := "fnZTimeOrder", vars := ["given.example/pub-quill/pub/ztime.std0x", "given.example/pub-quill/pub/ztime.longMonthNames", "given.example/pub-quill/pub/ztime.longDayNames"], fn := fun _ => fun
  | [d1, d2, g1, g2, g3] => { results := [.lit (.bool false)], args := [d1, d2], vars := [g1, g2, g3] }
  | _ => none }
def FnZTimeOrderWrongFalsely : Prop := fnZTimeOrderRow.holds Tryz.pinned (OpenSpec.ofChange fnZTimeOrderWrong)

/-- 'laws.FnZNamed': WHATEVER THE INPUT: true; the input reads as it did. -/
def fnZNamedSpec : ChangeSpec := { name := "fnZNamed", vars := ["given.example/pub-quill/pub/ztime.std0x", "given.example/pub-quill/pub/ztime.longMonthNames", "given.example/pub-quill/pub/ztime.longDayNames"], fn := fun _ => fun
  | [d, g1, g2, g3] => { results := [.lit (.bool true)], args := [d], vars := [g1, g2, g3] }
  | _ => none }
def fnZNamedRow : OpenClaim := { program := "ytchmhdmapknmfaagreatdoor", sum := "9ee102410c8a83ab1d0adc55525722376557aed615312c97f81ee398c653b0ee", func := "given.example/pub-quill/laws.FnZNamed", spec := "fnZNamed", inPlace := ["internal/abi.NoEscape", "internal/bytealg.MakeNoZero"], unfollowed := true, recurses := true, named := ["internal/strconv.uint64pow10", "math/bits.deBruijn32tab", "math/bits.deBruijn64tab", "given.example/pub-quill/pub/ztime.std0x", "given.example/pub-quill/pub/ztime.longMonthNames", "given.example/pub-quill/pub/ztime.longDayNames"], apart := false, laid := [("math/bits.deBruijn32tab", laid_math_bits_deBruijn32tab), ("math/bits.deBruijn64tab", laid_math_bits_deBruijn64tab), ("given.example/pub-quill/pub/ztime.std0x", laid_given_example_pub_quill_pub_ztime_std0x), ("given.example/pub-quill/pub/ztime.longDayNames", laid_given_example_pub_quill_pub_ztime_longDayNames), ("given.example/pub-quill/pub/ztime.longMonthNames", laid_given_example_pub_quill_pub_ztime_longMonthNames), ("internal/strconv.uint64pow10", laid_internal_strconv_uint64pow10)] }
def FnZNamedSaid : Prop := fnZNamedRow.holds Tryz.pinned (OpenSpec.ofChange fnZNamedSpec)

/-- ITS FALSE NEIGHBOUR: 'it returns false'. Refute it at one input. -/
def fnZNamedWrong : ChangeSpec := { name := "fnZNamed", vars := ["given.example/pub-quill/pub/ztime.std0x", "given.example/pub-quill/pub/ztime.longMonthNames", "given.example/pub-quill/pub/ztime.longDayNames"], fn := fun _ => fun
  | [d, g1, g2, g3] => { results := [.lit (.bool false)], args := [d], vars := [g1, g2, g3] }
  | _ => none }
def FnZNamedWrongFalsely : Prop := fnZNamedRow.holds Tryz.pinned (OpenSpec.ofChange fnZNamedWrong)

/-- 'laws.FnZMulti': WHATEVER THE INPUT: true; the input reads as it did. -/
def fnZMultiSpec : ChangeSpec := { name := "fnZMulti", vars := ["given.example/pub-quill/pub/ztime.std0x", "given.example/pub-quill/pub/ztime.longMonthNames", "given.example/pub-quill/pub/ztime.longDayNames"], fn := fun _ => fun
  | [d1, d2, g1, g2, g3] => { results := [.lit (.bool true)], args := [d1, d2], vars := [g1, g2, g3] }
  | _ => none }
def fnZMultiRow : OpenClaim := { program := "ytchmhdmapknmfaagreatdoor", sum := "9ee102410c8a83ab1d0adc55525722376557aed615312c97f81ee398c653b0ee", func := "given.example/pub-quill/laws.FnZMulti", spec := "fnZMulti", unfollowed := true, recurses := true, named := ["internal/strconv.uint64pow10", "math/bits.deBruijn32tab", "math/bits.deBruijn64tab", "given.example/pub-quill/pub/ztime.std0x", "given.example/pub-quill/pub/ztime.longMonthNames", "given.example/pub-quill/pub/ztime.longDayNames"], apart := false, laid := [("math/bits.deBruijn32tab", laid_math_bits_deBruijn32tab), ("math/bits.deBruijn64tab", laid_math_bits_deBruijn64tab), ("given.example/pub-quill/pub/ztime.std0x", laid_given_example_pub_quill_pub_ztime_std0x), ("given.example/pub-quill/pub/ztime.longDayNames", laid_given_example_pub_quill_pub_ztime_longDayNames), ("given.example/pub-quill/pub/ztime.longMonthNames", laid_given_example_pub_quill_pub_ztime_longMonthNames), ("internal/strconv.uint64pow10", laid_internal_strconv_uint64pow10)] }
def FnZMultiSaid : Prop := fnZMultiRow.holds Tryz.pinned (OpenSpec.ofChange fnZMultiSpec)

/-- ITS FALSE NEIGHBOUR: 'it returns false'. Refute it at one input. -/
def fnZMultiWrong : ChangeSpec := { name := "fnZMulti", vars := ["given.example/pub-quill/pub/ztime.std0x", "given.example/pub-quill/pub/ztime.longMonthNames", "given.example/pub-quill/pub/ztime.longDayNames"], fn := fun _ => fun
  | [d1, d2, g1, g2, g3] => { results := [.lit (.bool false)], args := [d1, d2], vars := [g1, g2, g3] }
  | _ => none }
def FnZMultiWrongFalsely : Prop := fnZMultiRow.holds Tryz.pinned (OpenSpec.ofChange fnZMultiWrong)

/-- 'laws.FnZBuffers': WHATEVER THE INPUT: true; the input reads as it did. -/
def fnZBuffersSpec : ChangeSpec := { name := "fnZBuffers", vars := ["given.example/pub-quill/pub/ztime.std0x", "given.example/pub-quill/pub/ztime.longMonthNames", "given.example/pub-quill/pub/ztime.longDayNames"], fn := fun _ => fun
  | [d1, d2, g1, g2, g3] => { results := [.lit (.bool true)], args := [d1, d2], vars := [g1, g2, g3] }
  | _ => none }
def fnZBuffersRow : OpenClaim := { program := "ytchmhdmapknmfaagreatdoor", sum := "9ee102410c8a83ab1d0adc55525722376557aed615312c97f81ee398c653b0ee", func := "given.example/pub-quill/laws.FnZBuffers", spec := "fnZBuffers", unfollowed := true, recurses := true, named := ["internal/strconv.uint64pow10", "math/bits.deBruijn32tab", "math/bits.deBruijn64tab", "given.example/pub-quill/pub/ztime.std0x", "given.example/pub-quill/pub/ztime.longMonthNames", "given.example/pub-quill/pub/ztime.longDayNames", "io.ErrShortWrite"], apart := false, laid := [("math/bits.deBruijn32tab", laid_math_bits_deBruijn32tab), ("math/bits.deBruijn64tab", laid_math_bits_deBruijn64tab), ("given.example/pub-quill/pub/ztime.std0x", laid_given_example_pub_quill_pub_ztime_std0x), ("given.example/pub-quill/pub/ztime.longDayNames", laid_given_example_pub_quill_pub_ztime_longDayNames), ("given.example/pub-quill/pub/ztime.longMonthNames", laid_given_example_pub_quill_pub_ztime_longMonthNames), ("internal/strconv.uint64pow10", laid_internal_strconv_uint64pow10), ("io.ErrShortWrite", laid_io_ErrShortWrite)] }
def FnZBuffersSaid : Prop := fnZBuffersRow.holds Tryz.pinned (OpenSpec.ofChange fnZBuffersSpec)

/-- ITS FALSE NEIGHBOUR: 'it returns false'. Refute it at one input. -/
def fnZBuffersWrong : ChangeSpec := { name := "fnZBuffers", vars := ["given.example/pub-quill/pub/ztime.std0x", "given.example/pub-quill/pub/ztime.longMonthNames", "given.example/pub-quill/pub/ztime.longDayNames"], fn := fun _ => fun
  | [d1, d2, g1, g2, g3] => { results := [.lit (.bool false)], args := [d1, d2], vars := [g1, g2, g3] }
  | _ => none }
def FnZBuffersWrongFalsely : Prop := fnZBuffersRow.holds Tryz.pinned (OpenSpec.ofChange fnZBuffersWrong)

/-- 'laws.FnZBuffersAll': WHATEVER THE INPUT: true; the input reads as it did. -/
def fnZBuffersAllSpec : ChangeSpec := { name := "fnZBuffersAll", vars := ["given.example/pub-quill/pub/ztime.std0x", "given.example/pub-quill/pub/ztime.longMonthNames", "given.example/pub-quill/pub/ztime.longDayNames"], fn := fun _ => fun
  | [d1, d2, g1, g2, g3] => { results := [.lit (.bool true)], args := [d1, d2], vars := [g1, g2, g3] }
  | _ => none }
def fnZBuffersAllRow : OpenClaim := { program := "ytchmhdmapknmfaagreatdoor", sum := "9ee102410c8a83ab1d0adc55525722376557aed615312c97f81ee398c653b0ee", func := "given.example/pub-quill/laws.FnZBuffersAll", spec := "fnZBuffersAll", unfollowed := true, recurses := true, named := ["internal/strconv.uint64pow10", "math/bits.deBruijn32tab", "math/bits.deBruijn64tab", "given.example/pub-quill/pub/ztime.std0x", "given.example/pub-quill/pub/ztime.longMonthNames", "given.example/pub-quill/pub/ztime.longDayNames", "io.ErrShortWrite"], apart := false, laid := [("math/bits.deBruijn32tab", laid_math_bits_deBruijn32tab), ("math/bits.deBruijn64tab", laid_math_bits_deBruijn64tab), ("given.example/pub-quill/pub/ztime.std0x", laid_given_example_pub_quill_pub_ztime_std0x), ("given.example/pub-quill/pub/ztime.longDayNames", laid_given_example_pub_quill_pub_ztime_longDayNames), ("given.example/pub-quill/pub/ztime.longMonthNames", laid_given_example_pub_quill_pub_ztime_longMonthNames), ("internal/strconv.uint64pow10", laid_internal_strconv_uint64pow10), ("io.ErrShortWrite", laid_io_ErrShortWrite)] }
def FnZBuffersAllSaid : Prop := fnZBuffersAllRow.holds Tryz.pinned (OpenSpec.ofChange fnZBuffersAllSpec)

/-- ITS FALSE NEIGHBOUR: 'it returns false'. Refute it at one input. -/
def fnZBuffersAllWrong : ChangeSpec := { name := "fnZBuffersAll", vars := ["given.example/pub-quill/pub/ztime.std0x", "given.example/pub-quill/pub/ztime.longMonthNames", "given.example/pub-quill/pub/ztime.longDayNames"], fn := fun _ => fun
  | [d1, d2, g1, g2, g3] => { results := [.lit (.bool false)], args := [d1, d2], vars := [g1, g2, g3] }
  | _ => none }
def FnZBuffersAllWrongFalsely : Prop := fnZBuffersAllRow.holds Tryz.pinned (OpenSpec.ofChange fnZBuffersAllWrong)

/- THE SECOND FORM. 'bulk': how many values and letters a reading holds, each counted each time it is reached (what is shared counts as often as it is met; a slice's spare places count too). A statement '..UptoSaid' is the law's where the arguments, and the package variables that the reading takes, are together of bulk at most 1048576: NARROWER than '..Said'. Prove '..Said' where nothing that the law and all that it calls make is longer than what came in: it says more and counts as full. Else prove '..UptoSaid'. A law counts once. -/
mutual
def uptoBulk {H : Type} : DataW H → Nat
  | .lit (.string bytes) => bytes.length + 1
  | .lit _ => 1
  | .nil => 1
  | .ptr d => uptoBulk d + 1
  | .slice elems spare => uptoBulkAll elems + uptoBulkAll spare + 1
  | .agg parts => uptoBulkAll parts + 1
  | .iface _ d => uptoBulk d + 1
  | .map entries => uptoBulkEntries entries + 1
  | .held _ => 1
def uptoBulkAll {H : Type} : List (DataW H) → Nat
  | [] => 0
  | d :: r => uptoBulk d + uptoBulkAll r
def uptoBulkEntries {H : Type} : List (Lit × DataW H) → Nat
  | [] => 0
  | x :: r => uptoBulkEntry x + uptoBulkEntries r
def uptoBulkEntry {H : Type} : Lit × DataW H → Nat
  | (.string bytes, d) => bytes.length + uptoBulk d + 1
  | (_, d) => uptoBulk d + 1
 end
def uptoSmall : (H : Type) → List (DataW H) → Bool := fun _ ds => decide (uptoBulkAll ds ≤ 1048576)
def OpenSpec.upto (s : _root_.Go.ChangeSpec) : _root_.Go.OpenSpec := { _root_.Go.OpenSpec.ofChange s with cond := some uptoSmall }

/-- 'laws.FnZDurationBack', WHERE WHAT IT READS IS OF BULK AT MOST 1048576: true; the input reads as it did. -/
def fnZDurationBackUptoRow : OpenClaim := { program := "ytchmhdmapknmfaagreatdoor", sum := "9ee102410c8a83ab1d0adc55525722376557aed615312c97f81ee398c653b0ee", func := "given.example/pub-quill/laws.FnZDurationBack", spec := "fnZDurationBack", unfollowed := true, recurses := true, named := ["internal/strconv.uint64pow10", "math/bits.deBruijn32tab", "math/bits.deBruijn64tab", "given.example/pub-quill/pub/ztime.std0x", "given.example/pub-quill/pub/ztime.longMonthNames", "given.example/pub-quill/pub/ztime.longDayNames", "unicode/utf8.first", "unicode/utf8.acceptRanges"], apart := false, laid := [("math/bits.deBruijn32tab", laid_math_bits_deBruijn32tab), ("math/bits.deBruijn64tab", laid_math_bits_deBruijn64tab), ("given.example/pub-quill/pub/ztime.std0x", laid_given_example_pub_quill_pub_ztime_std0x), ("given.example/pub-quill/pub/ztime.longDayNames", laid_given_example_pub_quill_pub_ztime_longDayNames), ("given.example/pub-quill/pub/ztime.longMonthNames", laid_given_example_pub_quill_pub_ztime_longMonthNames), ("internal/strconv.uint64pow10", laid_internal_strconv_uint64pow10), ("unicode/utf8.acceptRanges", laid_unicode_utf8_acceptRanges), ("unicode/utf8.first", laid_unicode_utf8_first)], narrowed := true }
def FnZDurationBackUptoSaid : Prop := fnZDurationBackUptoRow.holds Tryz.pinned (OpenSpec.upto fnZDurationBackSpec)

/-- 'laws.FnZPresets', WHERE WHAT IT READS IS OF BULK AT MOST 1048576: true; the input reads as it did. -/
def fnZPresetsUptoRow : OpenClaim := { program := "ytchmhdmapknmfaagreatdoor", sum := "9ee102410c8a83ab1d0adc55525722376557aed615312c97f81ee398c653b0ee", func := "given.example/pub-quill/laws.FnZPresets", spec := "fnZPresets", unfollowed := true, recurses := true, named := ["internal/strconv.uint64pow10", "math/bits.deBruijn32tab", "math/bits.deBruijn64tab", "given.example/pub-quill/pub/ztime.std0x", "given.example/pub-quill/pub/ztime.longMonthNames", "given.example/pub-quill/pub/ztime.longDayNames"], apart := false, laid := [("math/bits.deBruijn32tab", laid_math_bits_deBruijn32tab), ("math/bits.deBruijn64tab", laid_math_bits_deBruijn64tab), ("given.example/pub-quill/pub/ztime.std0x", laid_given_example_pub_quill_pub_ztime_std0x), ("given.example/pub-quill/pub/ztime.longDayNames", laid_given_example_pub_quill_pub_ztime_longDayNames), ("given.example/pub-quill/pub/ztime.longMonthNames", laid_given_example_pub_quill_pub_ztime_longMonthNames), ("internal/strconv.uint64pow10", laid_internal_strconv_uint64pow10)], narrowed := true }
def FnZPresetsUptoSaid : Prop := fnZPresetsUptoRow.holds Tryz.pinned (OpenSpec.upto fnZPresetsSpec)

/-- 'laws.FnZSafe', WHERE WHAT IT READS IS OF BULK AT MOST 1048576: true; the input reads as it did. -/
def fnZSafeUptoRow : OpenClaim := { program := "ytchmhdmapknmfaagreatdoor", sum := "9ee102410c8a83ab1d0adc55525722376557aed615312c97f81ee398c653b0ee", func := "given.example/pub-quill/laws.FnZSafe", spec := "fnZSafe", unfollowed := true, recurses := true, named := ["internal/strconv.uint64pow10", "math/bits.deBruijn32tab", "math/bits.deBruijn64tab", "given.example/pub-quill/pub/ztime.std0x", "given.example/pub-quill/pub/ztime.longMonthNames", "given.example/pub-quill/pub/ztime.longDayNames", "unicode/utf8.first", "unicode/utf8.acceptRanges"], apart := false, laid := [("math/bits.deBruijn32tab", laid_math_bits_deBruijn32tab), ("math/bits.deBruijn64tab", laid_math_bits_deBruijn64tab), ("given.example/pub-quill/pub/ztime.std0x", laid_given_example_pub_quill_pub_ztime_std0x), ("given.example/pub-quill/pub/ztime.longDayNames", laid_given_example_pub_quill_pub_ztime_longDayNames), ("given.example/pub-quill/pub/ztime.longMonthNames", laid_given_example_pub_quill_pub_ztime_longMonthNames), ("internal/strconv.uint64pow10", laid_internal_strconv_uint64pow10), ("unicode/utf8.acceptRanges", laid_unicode_utf8_acceptRanges), ("unicode/utf8.first", laid_unicode_utf8_first)], narrowed := true }
def FnZSafeUptoSaid : Prop := fnZSafeUptoRow.holds Tryz.pinned (OpenSpec.upto fnZSafeSpec)

/-- 'laws.FnZLayoutParts', WHERE WHAT IT READS IS OF BULK AT MOST 1048576: true; the input reads as it did. -/
def fnZLayoutPartsUptoRow : OpenClaim := { program := "ytchmhdmapknmfaagreatdoor", sum := "9ee102410c8a83ab1d0adc55525722376557aed615312c97f81ee398c653b0ee", func := "given.example/pub-quill/laws.FnZLayoutParts", spec := "fnZLayoutParts", unfollowed := true, recurses := true, named := ["internal/strconv.uint64pow10", "math/bits.deBruijn32tab", "math/bits.deBruijn64tab", "given.example/pub-quill/pub/ztime.std0x", "given.example/pub-quill/pub/ztime.longMonthNames", "given.example/pub-quill/pub/ztime.longDayNames"], apart := false, laid := [("math/bits.deBruijn32tab", laid_math_bits_deBruijn32tab), ("math/bits.deBruijn64tab", laid_math_bits_deBruijn64tab), ("given.example/pub-quill/pub/ztime.std0x", laid_given_example_pub_quill_pub_ztime_std0x), ("given.example/pub-quill/pub/ztime.longDayNames", laid_given_example_pub_quill_pub_ztime_longDayNames), ("given.example/pub-quill/pub/ztime.longMonthNames", laid_given_example_pub_quill_pub_ztime_longMonthNames), ("internal/strconv.uint64pow10", laid_internal_strconv_uint64pow10)], narrowed := true }
def FnZLayoutPartsUptoSaid : Prop := fnZLayoutPartsUptoRow.holds Tryz.pinned (OpenSpec.upto fnZLayoutPartsSpec)

/-- 'laws.FnZLayouts', WHERE WHAT IT READS IS OF BULK AT MOST 1048576: true; the input reads as it did. -/
def fnZLayoutsUptoRow : OpenClaim := { program := "ytchmhdmapknmfaagreatdoor", sum := "9ee102410c8a83ab1d0adc55525722376557aed615312c97f81ee398c653b0ee", func := "given.example/pub-quill/laws.FnZLayouts", spec := "fnZLayouts", unfollowed := true, recurses := true, named := ["internal/strconv.uint64pow10", "math/bits.deBruijn32tab", "math/bits.deBruijn64tab", "given.example/pub-quill/pub/ztime.std0x", "given.example/pub-quill/pub/ztime.longMonthNames", "given.example/pub-quill/pub/ztime.longDayNames", "given.example/pub-quill/spec.zChunks"], apart := false, laid := [("math/bits.deBruijn32tab", laid_math_bits_deBruijn32tab), ("math/bits.deBruijn64tab", laid_math_bits_deBruijn64tab), ("given.example/pub-quill/pub/ztime.std0x", laid_given_example_pub_quill_pub_ztime_std0x), ("given.example/pub-quill/pub/ztime.longDayNames", laid_given_example_pub_quill_pub_ztime_longDayNames), ("given.example/pub-quill/pub/ztime.longMonthNames", laid_given_example_pub_quill_pub_ztime_longMonthNames), ("internal/strconv.uint64pow10", laid_internal_strconv_uint64pow10), ("given.example/pub-quill/spec.zChunks", laid_given_example_pub_quill_spec_zChunks)], narrowed := true }
def FnZLayoutsUptoSaid : Prop := fnZLayoutsUptoRow.holds Tryz.pinned (OpenSpec.upto fnZLayoutsSpec)

/-- 'laws.FnZTimeOrder', WHERE WHAT IT READS IS OF BULK AT MOST 1048576: true; the input reads as it did. -/
def fnZTimeOrderUptoRow : OpenClaim := { program := "ytchmhdmapknmfaagreatdoor", sum := "9ee102410c8a83ab1d0adc55525722376557aed615312c97f81ee398c653b0ee", func := "given.example/pub-quill/laws.FnZTimeOrder", spec := "fnZTimeOrder", unfollowed := true, recurses := true, named := ["internal/strconv.uint64pow10", "math/bits.deBruijn32tab", "math/bits.deBruijn64tab", "given.example/pub-quill/pub/ztime.std0x", "given.example/pub-quill/pub/ztime.longMonthNames", "given.example/pub-quill/pub/ztime.longDayNames"], apart := false, laid := [("math/bits.deBruijn32tab", laid_math_bits_deBruijn32tab), ("math/bits.deBruijn64tab", laid_math_bits_deBruijn64tab), ("given.example/pub-quill/pub/ztime.std0x", laid_given_example_pub_quill_pub_ztime_std0x), ("given.example/pub-quill/pub/ztime.longDayNames", laid_given_example_pub_quill_pub_ztime_longDayNames), ("given.example/pub-quill/pub/ztime.longMonthNames", laid_given_example_pub_quill_pub_ztime_longMonthNames), ("internal/strconv.uint64pow10", laid_internal_strconv_uint64pow10)], narrowed := true }
def FnZTimeOrderUptoSaid : Prop := fnZTimeOrderUptoRow.holds Tryz.pinned (OpenSpec.upto fnZTimeOrderSpec)

/-- 'laws.FnZNamed', WHERE WHAT IT READS IS OF BULK AT MOST 1048576: true; the input reads as it did. -/
def fnZNamedUptoRow : OpenClaim := { program := "ytchmhdmapknmfaagreatdoor", sum := "9ee102410c8a83ab1d0adc55525722376557aed615312c97f81ee398c653b0ee", func := "given.example/pub-quill/laws.FnZNamed", spec := "fnZNamed", inPlace := ["internal/abi.NoEscape", "internal/bytealg.MakeNoZero"], unfollowed := true, recurses := true, named := ["internal/strconv.uint64pow10", "math/bits.deBruijn32tab", "math/bits.deBruijn64tab", "given.example/pub-quill/pub/ztime.std0x", "given.example/pub-quill/pub/ztime.longMonthNames", "given.example/pub-quill/pub/ztime.longDayNames"], apart := false, laid := [("math/bits.deBruijn32tab", laid_math_bits_deBruijn32tab), ("math/bits.deBruijn64tab", laid_math_bits_deBruijn64tab), ("given.example/pub-quill/pub/ztime.std0x", laid_given_example_pub_quill_pub_ztime_std0x), ("given.example/pub-quill/pub/ztime.longDayNames", laid_given_example_pub_quill_pub_ztime_longDayNames), ("given.example/pub-quill/pub/ztime.longMonthNames", laid_given_example_pub_quill_pub_ztime_longMonthNames), ("internal/strconv.uint64pow10", laid_internal_strconv_uint64pow10)], narrowed := true }
def FnZNamedUptoSaid : Prop := fnZNamedUptoRow.holds Tryz.pinned (OpenSpec.upto fnZNamedSpec)

/-- 'laws.FnZMulti', WHERE WHAT IT READS IS OF BULK AT MOST 1048576: true; the input reads as it did. -/
def fnZMultiUptoRow : OpenClaim := { program := "ytchmhdmapknmfaagreatdoor", sum := "9ee102410c8a83ab1d0adc55525722376557aed615312c97f81ee398c653b0ee", func := "given.example/pub-quill/laws.FnZMulti", spec := "fnZMulti", unfollowed := true, recurses := true, named := ["internal/strconv.uint64pow10", "math/bits.deBruijn32tab", "math/bits.deBruijn64tab", "given.example/pub-quill/pub/ztime.std0x", "given.example/pub-quill/pub/ztime.longMonthNames", "given.example/pub-quill/pub/ztime.longDayNames"], apart := false, laid := [("math/bits.deBruijn32tab", laid_math_bits_deBruijn32tab), ("math/bits.deBruijn64tab", laid_math_bits_deBruijn64tab), ("given.example/pub-quill/pub/ztime.std0x", laid_given_example_pub_quill_pub_ztime_std0x), ("given.example/pub-quill/pub/ztime.longDayNames", laid_given_example_pub_quill_pub_ztime_longDayNames), ("given.example/pub-quill/pub/ztime.longMonthNames", laid_given_example_pub_quill_pub_ztime_longMonthNames), ("internal/strconv.uint64pow10", laid_internal_strconv_uint64pow10)], narrowed := true }
def FnZMultiUptoSaid : Prop := fnZMultiUptoRow.holds Tryz.pinned (OpenSpec.upto fnZMultiSpec)

/-- 'laws.FnZBuffers', WHERE WHAT IT READS IS OF BULK AT MOST 1048576: true; the input reads as it did. -/
def fnZBuffersUptoRow : OpenClaim := { program := "ytchmhdmapknmfaagreatdoor", sum := "9ee102410c8a83ab1d0adc55525722376557aed615312c97f81ee398c653b0ee", func := "given.example/pub-quill/laws.FnZBuffers", spec := "fnZBuffers", unfollowed := true, recurses := true, named := ["internal/strconv.uint64pow10", "math/bits.deBruijn32tab", "math/bits.deBruijn64tab", "given.example/pub-quill/pub/ztime.std0x", "given.example/pub-quill/pub/ztime.longMonthNames", "given.example/pub-quill/pub/ztime.longDayNames", "io.ErrShortWrite"], apart := false, laid := [("math/bits.deBruijn32tab", laid_math_bits_deBruijn32tab), ("math/bits.deBruijn64tab", laid_math_bits_deBruijn64tab), ("given.example/pub-quill/pub/ztime.std0x", laid_given_example_pub_quill_pub_ztime_std0x), ("given.example/pub-quill/pub/ztime.longDayNames", laid_given_example_pub_quill_pub_ztime_longDayNames), ("given.example/pub-quill/pub/ztime.longMonthNames", laid_given_example_pub_quill_pub_ztime_longMonthNames), ("internal/strconv.uint64pow10", laid_internal_strconv_uint64pow10), ("io.ErrShortWrite", laid_io_ErrShortWrite)], narrowed := true }
def FnZBuffersUptoSaid : Prop := fnZBuffersUptoRow.holds Tryz.pinned (OpenSpec.upto fnZBuffersSpec)

/-- 'laws.FnZBuffersAll', WHERE WHAT IT READS IS OF BULK AT MOST 1048576: true; the input reads as it did. -/
def fnZBuffersAllUptoRow : OpenClaim := { program := "ytchmhdmapknmfaagreatdoor", sum := "9ee102410c8a83ab1d0adc55525722376557aed615312c97f81ee398c653b0ee", func := "given.example/pub-quill/laws.FnZBuffersAll", spec := "fnZBuffersAll", unfollowed := true, recurses := true, named := ["internal/strconv.uint64pow10", "math/bits.deBruijn32tab", "math/bits.deBruijn64tab", "given.example/pub-quill/pub/ztime.std0x", "given.example/pub-quill/pub/ztime.longMonthNames", "given.example/pub-quill/pub/ztime.longDayNames", "io.ErrShortWrite"], apart := false, laid := [("math/bits.deBruijn32tab", laid_math_bits_deBruijn32tab), ("math/bits.deBruijn64tab", laid_math_bits_deBruijn64tab), ("given.example/pub-quill/pub/ztime.std0x", laid_given_example_pub_quill_pub_ztime_std0x), ("given.example/pub-quill/pub/ztime.longDayNames", laid_given_example_pub_quill_pub_ztime_longDayNames), ("given.example/pub-quill/pub/ztime.longMonthNames", laid_given_example_pub_quill_pub_ztime_longMonthNames), ("internal/strconv.uint64pow10", laid_internal_strconv_uint64pow10), ("io.ErrShortWrite", laid_io_ErrShortWrite)], narrowed := true }
def FnZBuffersAllUptoSaid : Prop := fnZBuffersAllUptoRow.holds Tryz.pinned (OpenSpec.upto fnZBuffersAllSpec)

end Rows
end Go.Proofs.YtchmhdmapknmfaaGreatDoor
