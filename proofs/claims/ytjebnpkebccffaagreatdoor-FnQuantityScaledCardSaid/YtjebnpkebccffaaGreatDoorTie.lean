/-
  DERIVED. GIVEN WITH THE SEED: THE PROGRAM's TIES (one call each: nine closed facts by the kernel) AND EACH ROW's TIE, after the 31st guide's Derived/Test/Toyas{Tie, Card}.lean. No idea stands in it: it is a product of the set-up. Laid BY PROGRAM, IN A SANDBOX (cutbox-door.mjs). By AI agents, Wed Nov 11 2026. No macro, syntax, notation, axiom, sorry.
-/
import Derived.Test.YtjebnpkebccffaaGreatDoorRows
import Derived.LaidByTextLater
import Derived.SevenTiedAt
import Derived.LaidSub
import Derived.LaidOnce
namespace Go.Proofs.YtjebnpkebccffaaGreatDoor
open Go
set_option maxRecDepth 100000
theorem seatTie1 : Tryz.prog.laidByTextLater [("math/bits.deBruijn32tab", Rows.laid_math_bits_deBruijn32tab), ("math/bits.deBruijn64tab", Rows.laid_math_bits_deBruijn64tab), ("internal/strconv.uint64pow10", Rows.laid_internal_strconv_uint64pow10), ("unicode/utf8.acceptRanges", Rows.laid_unicode_utf8_acceptRanges), ("math.pow10tab", Rows.laid_math_pow10tab), ("math.pow10postab32", Rows.laid_math_pow10postab32), ("math.pow10negtab32", Rows.laid_math_pow10negtab32), ("strconv.ErrRange", Rows.laid_strconv_ErrRange), ("strconv.ErrSyntax", Rows.laid_strconv_ErrSyntax), ("io.EOF", Rows.laid_io_EOF), ("pub-stockroom/pub/bigall.errNoDigits", Rows.laid_pub_stockroom_pub_bigall_errNoDigits), ("pub-stockroom/pub/bigall.errInvalSep", Rows.laid_pub_stockroom_pub_bigall_errInvalSep), ("pub-stockroom/pub/bigall.leafSize", Rows.laid_pub_stockroom_pub_bigall_leafSize), ("pub-stockroom/pub/bigall.divRecursiveThreshold", Rows.laid_pub_stockroom_pub_bigall_divRecursiveThreshold), ("pub-stockroom/pub/bigall.karatsubaThreshold", Rows.laid_pub_stockroom_pub_bigall_karatsubaThreshold), ("pub-stockroom/pub/bigall.basicSqrThreshold", Rows.laid_pub_stockroom_pub_bigall_basicSqrThreshold), ("pub-stockroom/pub/bigall.karatsubaSqrThreshold", Rows.laid_pub_stockroom_pub_bigall_karatsubaSqrThreshold), ("pub-stockroom/pub/apimachinery/pkg/api/resource.ErrFormatWrong", Rows.laid_pub_stockroom_pub_apimachinery_pkg_api_resource_ErrFormatWrong), ("pub-stockroom/pub/apimachinery/pkg/api/resource.ErrNumeric", Rows.laid_pub_stockroom_pub_apimachinery_pkg_api_resource_ErrNumeric), ("pub-stockroom/pub/apimachinery/pkg/api/resource.ErrSuffix", Rows.laid_pub_stockroom_pub_apimachinery_pkg_api_resource_ErrSuffix)] [.data, .data, .data, .data, .data, .data, .data, .sentinel, .sentinel, .sentinel, .sentinel, .sentinel, .data, .data, .data, .data, .data, .sentinel, .sentinel, .sentinel] true :=
  Program.laidByTextLater_by_one 221 8 65 (by kernel_rfl) (by kernel_rfl) (by kernel_rfl) (by kernel_rfl) (by kernel_rfl) (by kernel_rfl) (fun _ _ => by kernel_rfl)
theorem pin_laid_unicode_utf8_first : Tryz.pinned.checked.prog.pinnedFits "unicode/utf8.first" = true := by kernel_rfl
theorem noOwnUnsafe : Tryz.pinned.checked.prog.headLifts.contains "ownunsafe" = false := by kernel_rfl
theorem fits1 : Tryz.pinned.checked.prog.listedFits [("math/bits.deBruijn32tab", Rows.laid_math_bits_deBruijn32tab), ("math/bits.deBruijn64tab", Rows.laid_math_bits_deBruijn64tab), ("internal/strconv.uint64pow10", Rows.laid_internal_strconv_uint64pow10), ("unicode/utf8.acceptRanges", Rows.laid_unicode_utf8_acceptRanges), ("strconv.ErrRange", Rows.laid_strconv_ErrRange), ("strconv.ErrSyntax", Rows.laid_strconv_ErrSyntax), ("io.EOF", Rows.laid_io_EOF), ("pub-stockroom/pub/bigall.errNoDigits", Rows.laid_pub_stockroom_pub_bigall_errNoDigits), ("pub-stockroom/pub/bigall.errInvalSep", Rows.laid_pub_stockroom_pub_bigall_errInvalSep), ("pub-stockroom/pub/bigall.leafSize", Rows.laid_pub_stockroom_pub_bigall_leafSize), ("pub-stockroom/pub/bigall.divRecursiveThreshold", Rows.laid_pub_stockroom_pub_bigall_divRecursiveThreshold), ("pub-stockroom/pub/bigall.karatsubaThreshold", Rows.laid_pub_stockroom_pub_bigall_karatsubaThreshold), ("pub-stockroom/pub/bigall.basicSqrThreshold", Rows.laid_pub_stockroom_pub_bigall_basicSqrThreshold), ("pub-stockroom/pub/bigall.karatsubaSqrThreshold", Rows.laid_pub_stockroom_pub_bigall_karatsubaSqrThreshold), ("pub-stockroom/pub/apimachinery/pkg/api/resource.ErrFormatWrong", Rows.laid_pub_stockroom_pub_apimachinery_pkg_api_resource_ErrFormatWrong), ("pub-stockroom/pub/apimachinery/pkg/api/resource.ErrNumeric", Rows.laid_pub_stockroom_pub_apimachinery_pkg_api_resource_ErrNumeric), ("pub-stockroom/pub/apimachinery/pkg/api/resource.ErrSuffix", Rows.laid_pub_stockroom_pub_apimachinery_pkg_api_resource_ErrSuffix), ("unicode/utf8.first", Rows.laid_unicode_utf8_first)] = true := by
  unfold Program.listedFits
  rw [noOwnUnsafe]
  kernel_rfl
theorem tie : Tryz.prog.laidByTextLater [("math/bits.deBruijn32tab", Rows.laid_math_bits_deBruijn32tab), ("math/bits.deBruijn64tab", Rows.laid_math_bits_deBruijn64tab), ("internal/strconv.uint64pow10", Rows.laid_internal_strconv_uint64pow10), ("unicode/utf8.acceptRanges", Rows.laid_unicode_utf8_acceptRanges), ("strconv.ErrRange", Rows.laid_strconv_ErrRange), ("strconv.ErrSyntax", Rows.laid_strconv_ErrSyntax), ("io.EOF", Rows.laid_io_EOF), ("pub-stockroom/pub/bigall.errNoDigits", Rows.laid_pub_stockroom_pub_bigall_errNoDigits), ("pub-stockroom/pub/bigall.errInvalSep", Rows.laid_pub_stockroom_pub_bigall_errInvalSep), ("pub-stockroom/pub/bigall.leafSize", Rows.laid_pub_stockroom_pub_bigall_leafSize), ("pub-stockroom/pub/bigall.divRecursiveThreshold", Rows.laid_pub_stockroom_pub_bigall_divRecursiveThreshold), ("pub-stockroom/pub/bigall.karatsubaThreshold", Rows.laid_pub_stockroom_pub_bigall_karatsubaThreshold), ("pub-stockroom/pub/bigall.basicSqrThreshold", Rows.laid_pub_stockroom_pub_bigall_basicSqrThreshold), ("pub-stockroom/pub/bigall.karatsubaSqrThreshold", Rows.laid_pub_stockroom_pub_bigall_karatsubaSqrThreshold), ("pub-stockroom/pub/apimachinery/pkg/api/resource.ErrFormatWrong", Rows.laid_pub_stockroom_pub_apimachinery_pkg_api_resource_ErrFormatWrong), ("pub-stockroom/pub/apimachinery/pkg/api/resource.ErrNumeric", Rows.laid_pub_stockroom_pub_apimachinery_pkg_api_resource_ErrNumeric), ("pub-stockroom/pub/apimachinery/pkg/api/resource.ErrSuffix", Rows.laid_pub_stockroom_pub_apimachinery_pkg_api_resource_ErrSuffix)] [.data, .data, .data, .data, .sentinel, .sentinel, .sentinel, .sentinel, .sentinel, .data, .data, .data, .data, .data, .sentinel, .sentinel, .sentinel] true :=
  Program.laidByTextLater.sub seatTie1 ["math/bits.deBruijn32tab", "math/bits.deBruijn64tab", "internal/strconv.uint64pow10", "unicode/utf8.acceptRanges", "strconv.ErrRange", "strconv.ErrSyntax", "io.EOF", "pub-stockroom/pub/bigall.errNoDigits", "pub-stockroom/pub/bigall.errInvalSep", "pub-stockroom/pub/bigall.leafSize", "pub-stockroom/pub/bigall.divRecursiveThreshold", "pub-stockroom/pub/bigall.karatsubaThreshold", "pub-stockroom/pub/bigall.basicSqrThreshold", "pub-stockroom/pub/bigall.karatsubaSqrThreshold", "pub-stockroom/pub/apimachinery/pkg/api/resource.ErrFormatWrong", "pub-stockroom/pub/apimachinery/pkg/api/resource.ErrNumeric", "pub-stockroom/pub/apimachinery/pkg/api/resource.ErrSuffix"] (by kernel_rfl) (by kernel_rfl)
theorem fnQuantityStrange_row_tie : Rows.fnQuantityStrangeRow.laidByTextAt .later Tryz.pinned [.data, .data, .data, .data, .sentinel, .sentinel, .sentinel, .sentinel, .sentinel, .data, .data, .data, .data, .data, .sentinel, .sentinel, .sentinel, .pinned] true :=
  OpenClaim.laidByTextAt_pinned rfl rfl tie rfl rfl rfl rfl (fun y hy _e => by
    simp only [Rows.fnQuantityStrangeRow, List.zip_cons_cons, List.zip_nil_right, List.mem_cons, List.mem_nil_iff, or_false] at hy
    rcases hy with rfl | rfl | rfl | rfl | rfl | rfl | rfl | rfl | rfl | rfl | rfl | rfl | rfl | rfl | rfl | rfl | rfl | rfl
    · cases _e
    · cases _e
    · cases _e
    · cases _e
    · cases _e
    · cases _e
    · cases _e
    · cases _e
    · cases _e
    · cases _e
    · cases _e
    · cases _e
    · cases _e
    · cases _e
    · cases _e
    · cases _e
    · cases _e
    · exact ⟨pin_laid_unicode_utf8_first, by kernel_rfl⟩) fits1
theorem fnQuantityNew_row_tie : Rows.fnQuantityNewRow.laidByTextAt .later Tryz.pinned [.data, .data, .data, .data, .sentinel, .sentinel, .sentinel, .sentinel, .sentinel, .data, .data, .data, .data, .data, .sentinel, .sentinel, .sentinel, .pinned] true :=
  OpenClaim.laidByTextAt_pinned rfl rfl tie rfl rfl rfl rfl (fun y hy _e => by
    simp only [Rows.fnQuantityNewRow, List.zip_cons_cons, List.zip_nil_right, List.mem_cons, List.mem_nil_iff, or_false] at hy
    rcases hy with rfl | rfl | rfl | rfl | rfl | rfl | rfl | rfl | rfl | rfl | rfl | rfl | rfl | rfl | rfl | rfl | rfl | rfl
    · cases _e
    · cases _e
    · cases _e
    · cases _e
    · cases _e
    · cases _e
    · cases _e
    · cases _e
    · cases _e
    · cases _e
    · cases _e
    · cases _e
    · cases _e
    · cases _e
    · cases _e
    · cases _e
    · cases _e
    · exact ⟨pin_laid_unicode_utf8_first, by kernel_rfl⟩) fits1
theorem fnQuantitySums_row_tie : Rows.fnQuantitySumsRow.laidByTextAt .later Tryz.pinned [.data, .data, .data, .data, .sentinel, .sentinel, .sentinel, .sentinel, .sentinel, .data, .data, .data, .data, .data, .sentinel, .sentinel, .sentinel, .pinned] true :=
  OpenClaim.laidByTextAt_pinned rfl rfl tie rfl rfl rfl rfl (fun y hy _e => by
    simp only [Rows.fnQuantitySumsRow, List.zip_cons_cons, List.zip_nil_right, List.mem_cons, List.mem_nil_iff, or_false] at hy
    rcases hy with rfl | rfl | rfl | rfl | rfl | rfl | rfl | rfl | rfl | rfl | rfl | rfl | rfl | rfl | rfl | rfl | rfl | rfl
    · cases _e
    · cases _e
    · cases _e
    · cases _e
    · cases _e
    · cases _e
    · cases _e
    · cases _e
    · cases _e
    · cases _e
    · cases _e
    · cases _e
    · cases _e
    · cases _e
    · cases _e
    · cases _e
    · cases _e
    · exact ⟨pin_laid_unicode_utf8_first, by kernel_rfl⟩) fits1
theorem fits2 : Tryz.pinned.checked.prog.listedFits [("math/bits.deBruijn32tab", Rows.laid_math_bits_deBruijn32tab), ("math/bits.deBruijn64tab", Rows.laid_math_bits_deBruijn64tab), ("internal/strconv.uint64pow10", Rows.laid_internal_strconv_uint64pow10), ("unicode/utf8.acceptRanges", Rows.laid_unicode_utf8_acceptRanges), ("math.pow10tab", Rows.laid_math_pow10tab), ("math.pow10postab32", Rows.laid_math_pow10postab32), ("math.pow10negtab32", Rows.laid_math_pow10negtab32), ("strconv.ErrRange", Rows.laid_strconv_ErrRange), ("strconv.ErrSyntax", Rows.laid_strconv_ErrSyntax), ("io.EOF", Rows.laid_io_EOF), ("pub-stockroom/pub/bigall.errNoDigits", Rows.laid_pub_stockroom_pub_bigall_errNoDigits), ("pub-stockroom/pub/bigall.errInvalSep", Rows.laid_pub_stockroom_pub_bigall_errInvalSep), ("pub-stockroom/pub/bigall.leafSize", Rows.laid_pub_stockroom_pub_bigall_leafSize), ("pub-stockroom/pub/bigall.divRecursiveThreshold", Rows.laid_pub_stockroom_pub_bigall_divRecursiveThreshold), ("pub-stockroom/pub/bigall.karatsubaThreshold", Rows.laid_pub_stockroom_pub_bigall_karatsubaThreshold), ("pub-stockroom/pub/bigall.basicSqrThreshold", Rows.laid_pub_stockroom_pub_bigall_basicSqrThreshold), ("pub-stockroom/pub/bigall.karatsubaSqrThreshold", Rows.laid_pub_stockroom_pub_bigall_karatsubaSqrThreshold), ("pub-stockroom/pub/apimachinery/pkg/api/resource.ErrFormatWrong", Rows.laid_pub_stockroom_pub_apimachinery_pkg_api_resource_ErrFormatWrong), ("pub-stockroom/pub/apimachinery/pkg/api/resource.ErrNumeric", Rows.laid_pub_stockroom_pub_apimachinery_pkg_api_resource_ErrNumeric), ("pub-stockroom/pub/apimachinery/pkg/api/resource.ErrSuffix", Rows.laid_pub_stockroom_pub_apimachinery_pkg_api_resource_ErrSuffix), ("unicode/utf8.first", Rows.laid_unicode_utf8_first)] = true := by
  unfold Program.listedFits
  rw [noOwnUnsafe]
  kernel_rfl
theorem tie2 : Tryz.prog.laidByTextLater [("math/bits.deBruijn32tab", Rows.laid_math_bits_deBruijn32tab), ("math/bits.deBruijn64tab", Rows.laid_math_bits_deBruijn64tab), ("internal/strconv.uint64pow10", Rows.laid_internal_strconv_uint64pow10), ("unicode/utf8.acceptRanges", Rows.laid_unicode_utf8_acceptRanges), ("math.pow10tab", Rows.laid_math_pow10tab), ("math.pow10postab32", Rows.laid_math_pow10postab32), ("math.pow10negtab32", Rows.laid_math_pow10negtab32), ("strconv.ErrRange", Rows.laid_strconv_ErrRange), ("strconv.ErrSyntax", Rows.laid_strconv_ErrSyntax), ("io.EOF", Rows.laid_io_EOF), ("pub-stockroom/pub/bigall.errNoDigits", Rows.laid_pub_stockroom_pub_bigall_errNoDigits), ("pub-stockroom/pub/bigall.errInvalSep", Rows.laid_pub_stockroom_pub_bigall_errInvalSep), ("pub-stockroom/pub/bigall.leafSize", Rows.laid_pub_stockroom_pub_bigall_leafSize), ("pub-stockroom/pub/bigall.divRecursiveThreshold", Rows.laid_pub_stockroom_pub_bigall_divRecursiveThreshold), ("pub-stockroom/pub/bigall.karatsubaThreshold", Rows.laid_pub_stockroom_pub_bigall_karatsubaThreshold), ("pub-stockroom/pub/bigall.basicSqrThreshold", Rows.laid_pub_stockroom_pub_bigall_basicSqrThreshold), ("pub-stockroom/pub/bigall.karatsubaSqrThreshold", Rows.laid_pub_stockroom_pub_bigall_karatsubaSqrThreshold), ("pub-stockroom/pub/apimachinery/pkg/api/resource.ErrFormatWrong", Rows.laid_pub_stockroom_pub_apimachinery_pkg_api_resource_ErrFormatWrong), ("pub-stockroom/pub/apimachinery/pkg/api/resource.ErrNumeric", Rows.laid_pub_stockroom_pub_apimachinery_pkg_api_resource_ErrNumeric), ("pub-stockroom/pub/apimachinery/pkg/api/resource.ErrSuffix", Rows.laid_pub_stockroom_pub_apimachinery_pkg_api_resource_ErrSuffix)] [.data, .data, .data, .data, .data, .data, .data, .sentinel, .sentinel, .sentinel, .sentinel, .sentinel, .data, .data, .data, .data, .data, .sentinel, .sentinel, .sentinel] true :=
  Program.laidByTextLater.sub seatTie1 ["math/bits.deBruijn32tab", "math/bits.deBruijn64tab", "internal/strconv.uint64pow10", "unicode/utf8.acceptRanges", "math.pow10tab", "math.pow10postab32", "math.pow10negtab32", "strconv.ErrRange", "strconv.ErrSyntax", "io.EOF", "pub-stockroom/pub/bigall.errNoDigits", "pub-stockroom/pub/bigall.errInvalSep", "pub-stockroom/pub/bigall.leafSize", "pub-stockroom/pub/bigall.divRecursiveThreshold", "pub-stockroom/pub/bigall.karatsubaThreshold", "pub-stockroom/pub/bigall.basicSqrThreshold", "pub-stockroom/pub/bigall.karatsubaSqrThreshold", "pub-stockroom/pub/apimachinery/pkg/api/resource.ErrFormatWrong", "pub-stockroom/pub/apimachinery/pkg/api/resource.ErrNumeric", "pub-stockroom/pub/apimachinery/pkg/api/resource.ErrSuffix"] (by kernel_rfl) (by kernel_rfl)
theorem fnQuantityScaled_row_tie : Rows.fnQuantityScaledRow.laidByTextAt .later Tryz.pinned [.data, .data, .data, .data, .data, .data, .data, .sentinel, .sentinel, .sentinel, .sentinel, .sentinel, .data, .data, .data, .data, .data, .sentinel, .sentinel, .sentinel, .pinned] true :=
  OpenClaim.laidByTextAt_pinned rfl rfl tie2 rfl rfl rfl rfl (fun y hy _e => by
    simp only [Rows.fnQuantityScaledRow, List.zip_cons_cons, List.zip_nil_right, List.mem_cons, List.mem_nil_iff, or_false] at hy
    rcases hy with rfl | rfl | rfl | rfl | rfl | rfl | rfl | rfl | rfl | rfl | rfl | rfl | rfl | rfl | rfl | rfl | rfl | rfl | rfl | rfl | rfl
    · cases _e
    · cases _e
    · cases _e
    · cases _e
    · cases _e
    · cases _e
    · cases _e
    · cases _e
    · cases _e
    · cases _e
    · cases _e
    · cases _e
    · cases _e
    · cases _e
    · cases _e
    · cases _e
    · cases _e
    · cases _e
    · cases _e
    · cases _e
    · exact ⟨pin_laid_unicode_utf8_first, by kernel_rfl⟩) fits2
theorem fnQuantityStrangeUpto_row_tie : Rows.fnQuantityStrangeUptoRow.laidByTextAt .later Tryz.pinned [.data, .data, .data, .data, .sentinel, .sentinel, .sentinel, .sentinel, .sentinel, .data, .data, .data, .data, .data, .sentinel, .sentinel, .sentinel, .pinned] true :=
  OpenClaim.laidByTextAt_pinned rfl rfl tie rfl rfl rfl rfl (fun y hy _e => by
    simp only [Rows.fnQuantityStrangeUptoRow, List.zip_cons_cons, List.zip_nil_right, List.mem_cons, List.mem_nil_iff, or_false] at hy
    rcases hy with rfl | rfl | rfl | rfl | rfl | rfl | rfl | rfl | rfl | rfl | rfl | rfl | rfl | rfl | rfl | rfl | rfl | rfl
    · cases _e
    · cases _e
    · cases _e
    · cases _e
    · cases _e
    · cases _e
    · cases _e
    · cases _e
    · cases _e
    · cases _e
    · cases _e
    · cases _e
    · cases _e
    · cases _e
    · cases _e
    · cases _e
    · cases _e
    · exact ⟨pin_laid_unicode_utf8_first, by kernel_rfl⟩) fits1
theorem fnQuantityNewUpto_row_tie : Rows.fnQuantityNewUptoRow.laidByTextAt .later Tryz.pinned [.data, .data, .data, .data, .sentinel, .sentinel, .sentinel, .sentinel, .sentinel, .data, .data, .data, .data, .data, .sentinel, .sentinel, .sentinel, .pinned] true :=
  OpenClaim.laidByTextAt_pinned rfl rfl tie rfl rfl rfl rfl (fun y hy _e => by
    simp only [Rows.fnQuantityNewUptoRow, List.zip_cons_cons, List.zip_nil_right, List.mem_cons, List.mem_nil_iff, or_false] at hy
    rcases hy with rfl | rfl | rfl | rfl | rfl | rfl | rfl | rfl | rfl | rfl | rfl | rfl | rfl | rfl | rfl | rfl | rfl | rfl
    · cases _e
    · cases _e
    · cases _e
    · cases _e
    · cases _e
    · cases _e
    · cases _e
    · cases _e
    · cases _e
    · cases _e
    · cases _e
    · cases _e
    · cases _e
    · cases _e
    · cases _e
    · cases _e
    · cases _e
    · exact ⟨pin_laid_unicode_utf8_first, by kernel_rfl⟩) fits1
theorem fnQuantityScaledUpto_row_tie : Rows.fnQuantityScaledUptoRow.laidByTextAt .later Tryz.pinned [.data, .data, .data, .data, .data, .data, .data, .sentinel, .sentinel, .sentinel, .sentinel, .sentinel, .data, .data, .data, .data, .data, .sentinel, .sentinel, .sentinel, .pinned] true :=
  OpenClaim.laidByTextAt_pinned rfl rfl tie2 rfl rfl rfl rfl (fun y hy _e => by
    simp only [Rows.fnQuantityScaledUptoRow, List.zip_cons_cons, List.zip_nil_right, List.mem_cons, List.mem_nil_iff, or_false] at hy
    rcases hy with rfl | rfl | rfl | rfl | rfl | rfl | rfl | rfl | rfl | rfl | rfl | rfl | rfl | rfl | rfl | rfl | rfl | rfl | rfl | rfl | rfl
    · cases _e
    · cases _e
    · cases _e
    · cases _e
    · cases _e
    · cases _e
    · cases _e
    · cases _e
    · cases _e
    · cases _e
    · cases _e
    · cases _e
    · cases _e
    · cases _e
    · cases _e
    · cases _e
    · cases _e
    · cases _e
    · cases _e
    · cases _e
    · exact ⟨pin_laid_unicode_utf8_first, by kernel_rfl⟩) fits2
theorem fnQuantitySumsUpto_row_tie : Rows.fnQuantitySumsUptoRow.laidByTextAt .later Tryz.pinned [.data, .data, .data, .data, .sentinel, .sentinel, .sentinel, .sentinel, .sentinel, .data, .data, .data, .data, .data, .sentinel, .sentinel, .sentinel, .pinned] true :=
  OpenClaim.laidByTextAt_pinned rfl rfl tie rfl rfl rfl rfl (fun y hy _e => by
    simp only [Rows.fnQuantitySumsUptoRow, List.zip_cons_cons, List.zip_nil_right, List.mem_cons, List.mem_nil_iff, or_false] at hy
    rcases hy with rfl | rfl | rfl | rfl | rfl | rfl | rfl | rfl | rfl | rfl | rfl | rfl | rfl | rfl | rfl | rfl | rfl | rfl
    · cases _e
    · cases _e
    · cases _e
    · cases _e
    · cases _e
    · cases _e
    · cases _e
    · cases _e
    · cases _e
    · cases _e
    · cases _e
    · cases _e
    · cases _e
    · cases _e
    · cases _e
    · cases _e
    · cases _e
    · exact ⟨pin_laid_unicode_utf8_first, by kernel_rfl⟩) fits1
end Go.Proofs.YtjebnpkebccffaaGreatDoor
