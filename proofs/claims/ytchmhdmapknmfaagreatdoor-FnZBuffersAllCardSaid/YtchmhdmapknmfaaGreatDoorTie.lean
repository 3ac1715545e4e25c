/-
  DERIVED. GIVEN WITH THE SEED: THE PROGRAM's TIES (one call each: nine closed facts by the kernel) AND EACH ROW's TIE, after the 31st guide's Derived/Test/Toyas{Tie, Card}.lean. No idea stands in it: it is a product of the set-up. Laid BY PROGRAM, IN A SANDBOX (cutbox-door.mjs). By AI agents, Wed Nov 11 2026. No macro, syntax, notation, axiom, sorry.
-/
import Derived.Test.YtchmhdmapknmfaaGreatDoorRows
import Derived.LaidByTextLater
import Derived.SevenTiedAt
import Derived.LaidSub
import Derived.LaidOnce
namespace Go.Proofs.YtchmhdmapknmfaaGreatDoor
open Go
set_option maxRecDepth 100000
theorem seatTie1 : Tryz.prog.laidByTextLater [("math/bits.deBruijn32tab", Rows.laid_math_bits_deBruijn32tab), ("math/bits.deBruijn64tab", Rows.laid_math_bits_deBruijn64tab), ("given.example/pub-quill/pub/ztime.std0x", Rows.laid_given_example_pub_quill_pub_ztime_std0x), ("given.example/pub-quill/pub/ztime.longDayNames", Rows.laid_given_example_pub_quill_pub_ztime_longDayNames), ("given.example/pub-quill/pub/ztime.longMonthNames", Rows.laid_given_example_pub_quill_pub_ztime_longMonthNames), ("internal/strconv.uint64pow10", Rows.laid_internal_strconv_uint64pow10), ("unicode/utf8.acceptRanges", Rows.laid_unicode_utf8_acceptRanges), ("io.ErrShortWrite", Rows.laid_io_ErrShortWrite), ("given.example/pub-quill/spec.zChunks", Rows.laid_given_example_pub_quill_spec_zChunks)] [.data, .data, .data, .data, .data, .data, .data, .sentinel, .data] true :=
  Program.laidByTextLater_by_one 77 8 65 (by kernel_rfl) (by kernel_rfl) (by kernel_rfl) (by kernel_rfl) (by kernel_rfl) (by kernel_rfl) (fun _ _ => by kernel_rfl)
theorem pin_laid_unicode_utf8_first : Tryz.pinned.checked.prog.pinnedFits "unicode/utf8.first" = true := by kernel_rfl
theorem noOwnUnsafe : Tryz.pinned.checked.prog.headLifts.contains "ownunsafe" = false := by kernel_rfl
theorem fits1 : Tryz.pinned.checked.prog.listedFits [("math/bits.deBruijn32tab", Rows.laid_math_bits_deBruijn32tab), ("math/bits.deBruijn64tab", Rows.laid_math_bits_deBruijn64tab), ("given.example/pub-quill/pub/ztime.std0x", Rows.laid_given_example_pub_quill_pub_ztime_std0x), ("given.example/pub-quill/pub/ztime.longDayNames", Rows.laid_given_example_pub_quill_pub_ztime_longDayNames), ("given.example/pub-quill/pub/ztime.longMonthNames", Rows.laid_given_example_pub_quill_pub_ztime_longMonthNames), ("internal/strconv.uint64pow10", Rows.laid_internal_strconv_uint64pow10), ("unicode/utf8.acceptRanges", Rows.laid_unicode_utf8_acceptRanges), ("unicode/utf8.first", Rows.laid_unicode_utf8_first)] = true := by
  unfold Program.listedFits
  rw [noOwnUnsafe]
  kernel_rfl
theorem tie : Tryz.prog.laidByTextLater [("math/bits.deBruijn32tab", Rows.laid_math_bits_deBruijn32tab), ("math/bits.deBruijn64tab", Rows.laid_math_bits_deBruijn64tab), ("given.example/pub-quill/pub/ztime.std0x", Rows.laid_given_example_pub_quill_pub_ztime_std0x), ("given.example/pub-quill/pub/ztime.longDayNames", Rows.laid_given_example_pub_quill_pub_ztime_longDayNames), ("given.example/pub-quill/pub/ztime.longMonthNames", Rows.laid_given_example_pub_quill_pub_ztime_longMonthNames), ("internal/strconv.uint64pow10", Rows.laid_internal_strconv_uint64pow10), ("unicode/utf8.acceptRanges", Rows.laid_unicode_utf8_acceptRanges)] [.data, .data, .data, .data, .data, .data, .data] true :=
  Program.laidByTextLater.sub seatTie1 ["math/bits.deBruijn32tab", "math/bits.deBruijn64tab", "given.example/pub-quill/pub/ztime.std0x", "given.example/pub-quill/pub/ztime.longDayNames", "given.example/pub-quill/pub/ztime.longMonthNames", "internal/strconv.uint64pow10", "unicode/utf8.acceptRanges"] (by kernel_rfl) (by kernel_rfl)
theorem fnZDurationBack_row_tie : Rows.fnZDurationBackRow.laidByTextAt .later Tryz.pinned [.data, .data, .data, .data, .data, .data, .data, .pinned] true :=
  OpenClaim.laidByTextAt_pinned rfl rfl tie rfl rfl rfl rfl (fun y hy _e => by
    simp only [Rows.fnZDurationBackRow, List.zip_cons_cons, List.zip_nil_right, List.mem_cons, List.mem_nil_iff, or_false] at hy
    rcases hy with rfl | rfl | rfl | rfl | rfl | rfl | rfl | rfl
    · cases _e
    · cases _e
    · cases _e
    · cases _e
    · cases _e
    · cases _e
    · cases _e
    · exact ⟨pin_laid_unicode_utf8_first, by kernel_rfl⟩) fits1
theorem fnZSafe_row_tie : Rows.fnZSafeRow.laidByTextAt .later Tryz.pinned [.data, .data, .data, .data, .data, .data, .data, .pinned] true :=
  OpenClaim.laidByTextAt_pinned rfl rfl tie rfl rfl rfl rfl (fun y hy _e => by
    simp only [Rows.fnZSafeRow, List.zip_cons_cons, List.zip_nil_right, List.mem_cons, List.mem_nil_iff, or_false] at hy
    rcases hy with rfl | rfl | rfl | rfl | rfl | rfl | rfl | rfl
    · cases _e
    · cases _e
    · cases _e
    · cases _e
    · cases _e
    · cases _e
    · cases _e
    · exact ⟨pin_laid_unicode_utf8_first, by kernel_rfl⟩) fits1
theorem tie2 : Tryz.prog.laidByTextLater [("math/bits.deBruijn32tab", Rows.laid_math_bits_deBruijn32tab), ("math/bits.deBruijn64tab", Rows.laid_math_bits_deBruijn64tab), ("given.example/pub-quill/pub/ztime.std0x", Rows.laid_given_example_pub_quill_pub_ztime_std0x), ("given.example/pub-quill/pub/ztime.longDayNames", Rows.laid_given_example_pub_quill_pub_ztime_longDayNames), ("given.example/pub-quill/pub/ztime.longMonthNames", Rows.laid_given_example_pub_quill_pub_ztime_longMonthNames), ("internal/strconv.uint64pow10", Rows.laid_internal_strconv_uint64pow10)] [.data, .data, .data, .data, .data, .data] true :=
  Program.laidByTextLater.sub seatTie1 ["math/bits.deBruijn32tab", "math/bits.deBruijn64tab", "given.example/pub-quill/pub/ztime.std0x", "given.example/pub-quill/pub/ztime.longDayNames", "given.example/pub-quill/pub/ztime.longMonthNames", "internal/strconv.uint64pow10"] (by kernel_rfl) (by kernel_rfl)
theorem fnZPresets_row_tie : Rows.fnZPresetsRow.laidByTextAt .later Tryz.pinned [.data, .data, .data, .data, .data, .data] true :=
  OpenClaim.laidByTextAt_later rfl rfl tie2 noOwnUnsafe
theorem fnZLayoutParts_row_tie : Rows.fnZLayoutPartsRow.laidByTextAt .later Tryz.pinned [.data, .data, .data, .data, .data, .data] true :=
  OpenClaim.laidByTextAt_later rfl rfl tie2 noOwnUnsafe
theorem fnZTimeOrder_row_tie : Rows.fnZTimeOrderRow.laidByTextAt .later Tryz.pinned [.data, .data, .data, .data, .data, .data] true :=
  OpenClaim.laidByTextAt_later rfl rfl tie2 noOwnUnsafe
theorem fnZNamed_row_tie : Rows.fnZNamedRow.laidByTextAt .later Tryz.pinned [.data, .data, .data, .data, .data, .data] true :=
  OpenClaim.laidByTextAt_later rfl rfl tie2 noOwnUnsafe
theorem fnZMulti_row_tie : Rows.fnZMultiRow.laidByTextAt .later Tryz.pinned [.data, .data, .data, .data, .data, .data] true :=
  OpenClaim.laidByTextAt_later rfl rfl tie2 noOwnUnsafe
theorem tie3 : Tryz.prog.laidByTextLater [("math/bits.deBruijn32tab", Rows.laid_math_bits_deBruijn32tab), ("math/bits.deBruijn64tab", Rows.laid_math_bits_deBruijn64tab), ("given.example/pub-quill/pub/ztime.std0x", Rows.laid_given_example_pub_quill_pub_ztime_std0x), ("given.example/pub-quill/pub/ztime.longDayNames", Rows.laid_given_example_pub_quill_pub_ztime_longDayNames), ("given.example/pub-quill/pub/ztime.longMonthNames", Rows.laid_given_example_pub_quill_pub_ztime_longMonthNames), ("internal/strconv.uint64pow10", Rows.laid_internal_strconv_uint64pow10), ("given.example/pub-quill/spec.zChunks", Rows.laid_given_example_pub_quill_spec_zChunks)] [.data, .data, .data, .data, .data, .data, .data] true :=
  Program.laidByTextLater.sub seatTie1 ["math/bits.deBruijn32tab", "math/bits.deBruijn64tab", "given.example/pub-quill/pub/ztime.std0x", "given.example/pub-quill/pub/ztime.longDayNames", "given.example/pub-quill/pub/ztime.longMonthNames", "internal/strconv.uint64pow10", "given.example/pub-quill/spec.zChunks"] (by kernel_rfl) (by kernel_rfl)
theorem fnZLayouts_row_tie : Rows.fnZLayoutsRow.laidByTextAt .later Tryz.pinned [.data, .data, .data, .data, .data, .data, .data] true :=
  OpenClaim.laidByTextAt_later rfl rfl tie3 noOwnUnsafe
theorem tie4 : Tryz.prog.laidByTextLater [("math/bits.deBruijn32tab", Rows.laid_math_bits_deBruijn32tab), ("math/bits.deBruijn64tab", Rows.laid_math_bits_deBruijn64tab), ("given.example/pub-quill/pub/ztime.std0x", Rows.laid_given_example_pub_quill_pub_ztime_std0x), ("given.example/pub-quill/pub/ztime.longDayNames", Rows.laid_given_example_pub_quill_pub_ztime_longDayNames), ("given.example/pub-quill/pub/ztime.longMonthNames", Rows.laid_given_example_pub_quill_pub_ztime_longMonthNames), ("internal/strconv.uint64pow10", Rows.laid_internal_strconv_uint64pow10), ("io.ErrShortWrite", Rows.laid_io_ErrShortWrite)] [.data, .data, .data, .data, .data, .data, .sentinel] true :=
  Program.laidByTextLater.sub seatTie1 ["math/bits.deBruijn32tab", "math/bits.deBruijn64tab", "given.example/pub-quill/pub/ztime.std0x", "given.example/pub-quill/pub/ztime.longDayNames", "given.example/pub-quill/pub/ztime.longMonthNames", "internal/strconv.uint64pow10", "io.ErrShortWrite"] (by kernel_rfl) (by kernel_rfl)
theorem fnZBuffers_row_tie : Rows.fnZBuffersRow.laidByTextAt .later Tryz.pinned [.data, .data, .data, .data, .data, .data, .sentinel] true :=
  OpenClaim.laidByTextAt_later rfl rfl tie4 noOwnUnsafe
theorem fnZBuffersAll_row_tie : Rows.fnZBuffersAllRow.laidByTextAt .later Tryz.pinned [.data, .data, .data, .data, .data, .data, .sentinel] true :=
  OpenClaim.laidByTextAt_later rfl rfl tie4 noOwnUnsafe
theorem fnZDurationBackUpto_row_tie : Rows.fnZDurationBackUptoRow.laidByTextAt .later Tryz.pinned [.data, .data, .data, .data, .data, .data, .data, .pinned] true :=
  OpenClaim.laidByTextAt_pinned rfl rfl tie rfl rfl rfl rfl (fun y hy _e => by
    simp only [Rows.fnZDurationBackUptoRow, List.zip_cons_cons, List.zip_nil_right, List.mem_cons, List.mem_nil_iff, or_false] at hy
    rcases hy with rfl | rfl | rfl | rfl | rfl | rfl | rfl | rfl
    · cases _e
    · cases _e
    · cases _e
    · cases _e
    · cases _e
    · cases _e
    · cases _e
    · exact ⟨pin_laid_unicode_utf8_first, by kernel_rfl⟩) fits1
theorem fnZPresetsUpto_row_tie : Rows.fnZPresetsUptoRow.laidByTextAt .later Tryz.pinned [.data, .data, .data, .data, .data, .data] true :=
  OpenClaim.laidByTextAt_later rfl rfl tie2 noOwnUnsafe
theorem fnZSafeUpto_row_tie : Rows.fnZSafeUptoRow.laidByTextAt .later Tryz.pinned [.data, .data, .data, .data, .data, .data, .data, .pinned] true :=
  OpenClaim.laidByTextAt_pinned rfl rfl tie rfl rfl rfl rfl (fun y hy _e => by
    simp only [Rows.fnZSafeUptoRow, List.zip_cons_cons, List.zip_nil_right, List.mem_cons, List.mem_nil_iff, or_false] at hy
    rcases hy with rfl | rfl | rfl | rfl | rfl | rfl | rfl | rfl
    · cases _e
    · cases _e
    · cases _e
    · cases _e
    · cases _e
    · cases _e
    · cases _e
    · exact ⟨pin_laid_unicode_utf8_first, by kernel_rfl⟩) fits1
theorem fnZLayoutPartsUpto_row_tie : Rows.fnZLayoutPartsUptoRow.laidByTextAt .later Tryz.pinned [.data, .data, .data, .data, .data, .data] true :=
  OpenClaim.laidByTextAt_later rfl rfl tie2 noOwnUnsafe
theorem fnZLayoutsUpto_row_tie : Rows.fnZLayoutsUptoRow.laidByTextAt .later Tryz.pinned [.data, .data, .data, .data, .data, .data, .data] true :=
  OpenClaim.laidByTextAt_later rfl rfl tie3 noOwnUnsafe
theorem fnZTimeOrderUpto_row_tie : Rows.fnZTimeOrderUptoRow.laidByTextAt .later Tryz.pinned [.data, .data, .data, .data, .data, .data] true :=
  OpenClaim.laidByTextAt_later rfl rfl tie2 noOwnUnsafe
theorem fnZNamedUpto_row_tie : Rows.fnZNamedUptoRow.laidByTextAt .later Tryz.pinned [.data, .data, .data, .data, .data, .data] true :=
  OpenClaim.laidByTextAt_later rfl rfl tie2 noOwnUnsafe
theorem fnZMultiUpto_row_tie : Rows.fnZMultiUptoRow.laidByTextAt .later Tryz.pinned [.data, .data, .data, .data, .data, .data] true :=
  OpenClaim.laidByTextAt_later rfl rfl tie2 noOwnUnsafe
theorem fnZBuffersUpto_row_tie : Rows.fnZBuffersUptoRow.laidByTextAt .later Tryz.pinned [.data, .data, .data, .data, .data, .data, .sentinel] true :=
  OpenClaim.laidByTextAt_later rfl rfl tie4 noOwnUnsafe
theorem fnZBuffersAllUpto_row_tie : Rows.fnZBuffersAllUptoRow.laidByTextAt .later Tryz.pinned [.data, .data, .data, .data, .data, .data, .sentinel] true :=
  OpenClaim.laidByTextAt_later rfl rfl tie4 noOwnUnsafe
end Go.Proofs.YtchmhdmapknmfaaGreatDoor
