/-
  DERIVED. GIVEN WITH THE SEED: THE PROGRAM's TIES (one call each: nine closed facts by the kernel) AND EACH ROW's TIE, after the 31st guide's Derived/Test/Toyas{Tie, Card}.lean. No idea stands in it: it is a product of the set-up. Laid BY PROGRAM, IN A SANDBOX (cutbox-door.mjs). By AI agents, Wed Nov 11 2026. No macro, syntax, notation, axiom, sorry.
-/
import Derived.Test.YtphpjboljlkdkaaDoorRows
import Derived.LaidByTextLater
import Derived.SevenTiedAt
import Derived.LaidSub
import Derived.LaidOnce
namespace Go.Proofs.YtphpjboljlkdkaaDoor
open Go
set_option maxRecDepth 100000
theorem seatTie1 : Tryd.prog.laidByTextLater [("math/bits.deBruijn32tab", Rows.laid_math_bits_deBruijn32tab), ("math/bits.deBruijn64tab", Rows.laid_math_bits_deBruijn64tab), ("internal/strconv.float32info", Rows.laid_internal_strconv_float32info), ("internal/strconv.float64info", Rows.laid_internal_strconv_float64info), ("internal/strconv.optimize", Rows.laid_internal_strconv_optimize), ("internal/strconv.powtab", Rows.laid_internal_strconv_powtab), ("internal/strconv.float64pow10", Rows.laid_internal_strconv_float64pow10), ("internal/strconv.float32pow10", Rows.laid_internal_strconv_float32pow10), ("internal/strconv.uint64pow10", Rows.laid_internal_strconv_uint64pow10), ("unicode/utf8.acceptRanges", Rows.laid_unicode_utf8_acceptRanges), ("strconv.ErrRange", Rows.laid_strconv_ErrRange), ("strconv.ErrSyntax", Rows.laid_strconv_ErrSyntax)] [.data, .data, .widerDeep, .widerDeep, .data, .data, .data, .data, .data, .data, .sentinel, .sentinel] true :=
  Program.laidByTextLater_by_one 121 8 65 (by kernel_rfl) (by kernel_rfl) (by kernel_rfl) (by kernel_rfl) (by kernel_rfl) (by kernel_rfl) (fun _ _ => by kernel_rfl)
theorem seatTie2 : Tryd.prog.laidByTextLater [("math/bits.deBruijn32tab", Rows.laid_math_bits_deBruijn32tab), ("math/bits.deBruijn64tab", Rows.laid_math_bits_deBruijn64tab), ("internal/strconv.float32info", Rows.laid_internal_strconv_float32info), ("internal/strconv.float64info", Rows.laid_internal_strconv_float64info), ("internal/strconv.optimize", Rows.laid_internal_strconv_optimize), ("internal/strconv.powtab", Rows.laid_internal_strconv_powtab), ("internal/strconv.float64pow10", Rows.laid_internal_strconv_float64pow10), ("internal/strconv.float32pow10", Rows.laid_internal_strconv_float32pow10), ("internal/strconv.uint64pow10", Rows.laid_internal_strconv_uint64pow10), ("math.pow10tab", Rows.laid_math_pow10tab), ("math.pow10postab32", Rows.laid_math_pow10postab32), ("math.pow10negtab32", Rows.laid_math_pow10negtab32), ("strconv.ErrRange", Rows.laid_strconv_ErrRange), ("strconv.ErrSyntax", Rows.laid_strconv_ErrSyntax), ("pub-tetrapla/pub/fastjson/fastfloat.float64pow10", Rows.laid_pub_tetrapla_pub_fastjson_fastfloat_float64pow10)] [.data, .data, .widerDeep, .widerDeep, .data, .data, .data, .data, .data, .data, .data, .data, .sentinel, .sentinel, .data] true :=
  Program.laidByTextLater_by_one 121 8 65 (by kernel_rfl) (by kernel_rfl) (by kernel_rfl) (by kernel_rfl) (by kernel_rfl) (by kernel_rfl) (fun _ _ => by kernel_rfl)
theorem pin_laid_unicode_utf8_first : Tryd.pinned.checked.prog.pinnedFits "unicode/utf8.first" = true := by kernel_rfl
theorem pin_laid_internal_strconv_leftcheats : Tryd.pinned.checked.prog.pinnedFits "internal/strconv.leftcheats" = true := by kernel_rfl
theorem pin_laid_internal_strconv_pow10Tab : Tryd.pinned.checked.prog.pinnedFits "internal/strconv.pow10Tab" = true := by kernel_rfl
theorem noOwnUnsafe : Tryd.pinned.checked.prog.headLifts.contains "ownunsafe" = false := by kernel_rfl
theorem fits1 : Tryd.pinned.checked.prog.listedFits [("unicode/utf8.acceptRanges", Rows.laid_unicode_utf8_acceptRanges), ("unicode/utf8.first", Rows.laid_unicode_utf8_first)] = true := by
  unfold Program.listedFits
  rw [noOwnUnsafe]
  kernel_rfl
theorem tie : Tryd.prog.laidByTextLater [("unicode/utf8.acceptRanges", Rows.laid_unicode_utf8_acceptRanges)] [.data] true :=
  Program.laidByTextLater.sub seatTie1 ["unicode/utf8.acceptRanges"] (by kernel_rfl) (by kernel_rfl)
theorem fnMtStars_row_tie : Rows.fnMtStarsRow.laidByTextAt .later Tryd.pinned [.data, .pinned] true :=
  OpenClaim.laidByTextAt_pinned rfl rfl tie rfl rfl rfl rfl (fun y hy _e => by
    simp only [Rows.fnMtStarsRow, List.zip_cons_cons, List.zip_nil_right, List.mem_cons, List.mem_nil_iff, or_false] at hy
    rcases hy with rfl | rfl
    · cases _e
    · exact ⟨pin_laid_unicode_utf8_first, by kernel_rfl⟩) fits1
theorem fnMtWider_row_tie : Rows.fnMtWiderRow.laidByTextAt .later Tryd.pinned [.data, .pinned] true :=
  OpenClaim.laidByTextAt_pinned rfl rfl tie rfl rfl rfl rfl (fun y hy _e => by
    simp only [Rows.fnMtWiderRow, List.zip_cons_cons, List.zip_nil_right, List.mem_cons, List.mem_nil_iff, or_false] at hy
    rcases hy with rfl | rfl
    · cases _e
    · exact ⟨pin_laid_unicode_utf8_first, by kernel_rfl⟩) fits1
theorem tie2 : Tryd.prog.laidByTextLater [("math/bits.deBruijn32tab", Rows.laid_math_bits_deBruijn32tab), ("math/bits.deBruijn64tab", Rows.laid_math_bits_deBruijn64tab), ("internal/strconv.uint64pow10", Rows.laid_internal_strconv_uint64pow10), ("strconv.ErrRange", Rows.laid_strconv_ErrRange), ("strconv.ErrSyntax", Rows.laid_strconv_ErrSyntax)] [.data, .data, .data, .sentinel, .sentinel] true :=
  Program.laidByTextLater.sub seatTie1 ["math/bits.deBruijn32tab", "math/bits.deBruijn64tab", "internal/strconv.uint64pow10", "strconv.ErrRange", "strconv.ErrSyntax"] (by kernel_rfl) (by kernel_rfl)
theorem fnGjTrueish_row_tie : Rows.fnGjTrueishRow.laidByTextAt .later Tryd.pinned [.data, .data, .data, .sentinel, .sentinel] true :=
  OpenClaim.laidByTextAt_later rfl rfl tie2 noOwnUnsafe
theorem fits3 : Tryd.pinned.checked.prog.listedFits [("math/bits.deBruijn32tab", Rows.laid_math_bits_deBruijn32tab), ("math/bits.deBruijn64tab", Rows.laid_math_bits_deBruijn64tab), ("internal/strconv.float32info", Rows.laid_internal_strconv_float32info), ("internal/strconv.float64info", Rows.laid_internal_strconv_float64info), ("internal/strconv.optimize", Rows.laid_internal_strconv_optimize), ("internal/strconv.powtab", Rows.laid_internal_strconv_powtab), ("internal/strconv.float64pow10", Rows.laid_internal_strconv_float64pow10), ("internal/strconv.float32pow10", Rows.laid_internal_strconv_float32pow10), ("internal/strconv.uint64pow10", Rows.laid_internal_strconv_uint64pow10), ("strconv.ErrRange", Rows.laid_strconv_ErrRange), ("strconv.ErrSyntax", Rows.laid_strconv_ErrSyntax), ("internal/strconv.leftcheats", Rows.laid_internal_strconv_leftcheats), ("internal/strconv.pow10Tab", Rows.laid_internal_strconv_pow10Tab)] = true := by
  unfold Program.listedFits
  rw [noOwnUnsafe]
  kernel_rfl
theorem tie3 : Tryd.prog.laidByTextLater [("math/bits.deBruijn32tab", Rows.laid_math_bits_deBruijn32tab), ("math/bits.deBruijn64tab", Rows.laid_math_bits_deBruijn64tab), ("internal/strconv.float32info", Rows.laid_internal_strconv_float32info), ("internal/strconv.float64info", Rows.laid_internal_strconv_float64info), ("internal/strconv.optimize", Rows.laid_internal_strconv_optimize), ("internal/strconv.powtab", Rows.laid_internal_strconv_powtab), ("internal/strconv.float64pow10", Rows.laid_internal_strconv_float64pow10), ("internal/strconv.float32pow10", Rows.laid_internal_strconv_float32pow10), ("internal/strconv.uint64pow10", Rows.laid_internal_strconv_uint64pow10), ("strconv.ErrRange", Rows.laid_strconv_ErrRange), ("strconv.ErrSyntax", Rows.laid_strconv_ErrSyntax)] [.data, .data, .widerDeep, .widerDeep, .data, .data, .data, .data, .data, .sentinel, .sentinel] true :=
  Program.laidByTextLater.sub seatTie1 ["math/bits.deBruijn32tab", "math/bits.deBruijn64tab", "internal/strconv.float32info", "internal/strconv.float64info", "internal/strconv.optimize", "internal/strconv.powtab", "internal/strconv.float64pow10", "internal/strconv.float32pow10", "internal/strconv.uint64pow10", "strconv.ErrRange", "strconv.ErrSyntax"] (by kernel_rfl) (by kernel_rfl)
theorem fnGjResultIntText_row_tie : Rows.fnGjResultIntTextRow.laidByTextAt .later Tryd.pinned [.data, .data, .widerDeep, .widerDeep, .data, .data, .data, .data, .data, .sentinel, .sentinel, .pinned, .pinned] true :=
  OpenClaim.laidByTextAt_pinned rfl rfl tie3 rfl rfl rfl rfl (fun y hy _e => by
    simp only [Rows.fnGjResultIntTextRow, List.zip_cons_cons, List.zip_nil_right, List.mem_cons, List.mem_nil_iff, or_false] at hy
    rcases hy with rfl | rfl | rfl | rfl | rfl | rfl | rfl | rfl | rfl | rfl | rfl | rfl | rfl
    · cases _e
    · cases _e
    · cases _e
    · cases _e
    · cases _e
    · cases _e
    · cases _e
    · cases _e
    · cases _e
    · cases _e
    · cases _e
    · exact ⟨pin_laid_internal_strconv_leftcheats, by kernel_rfl⟩
    · exact ⟨pin_laid_internal_strconv_pow10Tab, by kernel_rfl⟩) fits3
theorem fnGjLessNumbers_row_tie : Rows.fnGjLessNumbersRow.laidByTextAt .later Tryd.pinned [.data, .data, .widerDeep, .widerDeep, .data, .data, .data, .data, .data, .sentinel, .sentinel, .pinned, .pinned] true :=
  OpenClaim.laidByTextAt_pinned rfl rfl tie3 rfl rfl rfl rfl (fun y hy _e => by
    simp only [Rows.fnGjLessNumbersRow, List.zip_cons_cons, List.zip_nil_right, List.mem_cons, List.mem_nil_iff, or_false] at hy
    rcases hy with rfl | rfl | rfl | rfl | rfl | rfl | rfl | rfl | rfl | rfl | rfl | rfl | rfl
    · cases _e
    · cases _e
    · cases _e
    · cases _e
    · cases _e
    · cases _e
    · cases _e
    · cases _e
    · cases _e
    · cases _e
    · cases _e
    · exact ⟨pin_laid_internal_strconv_leftcheats, by kernel_rfl⟩
    · exact ⟨pin_laid_internal_strconv_pow10Tab, by kernel_rfl⟩) fits3
theorem fnGjUint_row_tie : Rows.fnGjUintRow.laidByTextAt .later Tryd.pinned [.data, .data, .widerDeep, .widerDeep, .data, .data, .data, .data, .data, .sentinel, .sentinel, .pinned, .pinned] true :=
  OpenClaim.laidByTextAt_pinned rfl rfl tie3 rfl rfl rfl rfl (fun y hy _e => by
    simp only [Rows.fnGjUintRow, List.zip_cons_cons, List.zip_nil_right, List.mem_cons, List.mem_nil_iff, or_false] at hy
    rcases hy with rfl | rfl | rfl | rfl | rfl | rfl | rfl | rfl | rfl | rfl | rfl | rfl | rfl
    · cases _e
    · cases _e
    · cases _e
    · cases _e
    · cases _e
    · cases _e
    · cases _e
    · cases _e
    · cases _e
    · cases _e
    · cases _e
    · exact ⟨pin_laid_internal_strconv_leftcheats, by kernel_rfl⟩
    · exact ⟨pin_laid_internal_strconv_pow10Tab, by kernel_rfl⟩) fits3
theorem fits4 : Tryd.pinned.checked.prog.listedFits [("math/bits.deBruijn32tab", Rows.laid_math_bits_deBruijn32tab), ("math/bits.deBruijn64tab", Rows.laid_math_bits_deBruijn64tab), ("internal/strconv.float32info", Rows.laid_internal_strconv_float32info), ("internal/strconv.float64info", Rows.laid_internal_strconv_float64info), ("internal/strconv.optimize", Rows.laid_internal_strconv_optimize), ("internal/strconv.powtab", Rows.laid_internal_strconv_powtab), ("internal/strconv.float64pow10", Rows.laid_internal_strconv_float64pow10), ("internal/strconv.float32pow10", Rows.laid_internal_strconv_float32pow10), ("internal/strconv.uint64pow10", Rows.laid_internal_strconv_uint64pow10), ("unicode/utf8.acceptRanges", Rows.laid_unicode_utf8_acceptRanges), ("strconv.ErrRange", Rows.laid_strconv_ErrRange), ("strconv.ErrSyntax", Rows.laid_strconv_ErrSyntax), ("internal/strconv.leftcheats", Rows.laid_internal_strconv_leftcheats), ("internal/strconv.pow10Tab", Rows.laid_internal_strconv_pow10Tab), ("unicode/utf8.first", Rows.laid_unicode_utf8_first)] = true := by
  unfold Program.listedFits
  rw [noOwnUnsafe]
  kernel_rfl
theorem tie4 : Tryd.prog.laidByTextLater [("math/bits.deBruijn32tab", Rows.laid_math_bits_deBruijn32tab), ("math/bits.deBruijn64tab", Rows.laid_math_bits_deBruijn64tab), ("internal/strconv.float32info", Rows.laid_internal_strconv_float32info), ("internal/strconv.float64info", Rows.laid_internal_strconv_float64info), ("internal/strconv.optimize", Rows.laid_internal_strconv_optimize), ("internal/strconv.powtab", Rows.laid_internal_strconv_powtab), ("internal/strconv.float64pow10", Rows.laid_internal_strconv_float64pow10), ("internal/strconv.float32pow10", Rows.laid_internal_strconv_float32pow10), ("internal/strconv.uint64pow10", Rows.laid_internal_strconv_uint64pow10), ("unicode/utf8.acceptRanges", Rows.laid_unicode_utf8_acceptRanges), ("strconv.ErrRange", Rows.laid_strconv_ErrRange), ("strconv.ErrSyntax", Rows.laid_strconv_ErrSyntax)] [.data, .data, .widerDeep, .widerDeep, .data, .data, .data, .data, .data, .data, .sentinel, .sentinel] true :=
  Program.laidByTextLater.sub seatTie1 ["math/bits.deBruijn32tab", "math/bits.deBruijn64tab", "internal/strconv.float32info", "internal/strconv.float64info", "internal/strconv.optimize", "internal/strconv.powtab", "internal/strconv.float64pow10", "internal/strconv.float32pow10", "internal/strconv.uint64pow10", "unicode/utf8.acceptRanges", "strconv.ErrRange", "strconv.ErrSyntax"] (by kernel_rfl) (by kernel_rfl)
theorem fnPrLessNames_row_tie : Rows.fnPrLessNamesRow.laidByTextAt .later Tryd.pinned [.data, .data, .widerDeep, .widerDeep, .data, .data, .data, .data, .data, .data, .sentinel, .sentinel, .pinned, .pinned, .pinned] true :=
  OpenClaim.laidByTextAt_pinned rfl rfl tie4 rfl rfl rfl rfl (fun y hy _e => by
    simp only [Rows.fnPrLessNamesRow, List.zip_cons_cons, List.zip_nil_right, List.mem_cons, List.mem_nil_iff, or_false] at hy
    rcases hy with rfl | rfl | rfl | rfl | rfl | rfl | rfl | rfl | rfl | rfl | rfl | rfl | rfl | rfl | rfl
    · cases _e
    · cases _e
    · cases _e
    · cases _e
    · cases _e
    · cases _e
    · cases _e
    · cases _e
    · cases _e
    · cases _e
    · cases _e
    · cases _e
    · exact ⟨pin_laid_internal_strconv_leftcheats, by kernel_rfl⟩
    · exact ⟨pin_laid_internal_strconv_pow10Tab, by kernel_rfl⟩
    · exact ⟨pin_laid_unicode_utf8_first, by kernel_rfl⟩) fits4
theorem fits5 : Tryd.pinned.checked.prog.listedFits [("math/bits.deBruijn32tab", Rows.laid_math_bits_deBruijn32tab), ("math/bits.deBruijn64tab", Rows.laid_math_bits_deBruijn64tab), ("internal/strconv.float32info", Rows.laid_internal_strconv_float32info), ("internal/strconv.float64info", Rows.laid_internal_strconv_float64info), ("internal/strconv.optimize", Rows.laid_internal_strconv_optimize), ("internal/strconv.powtab", Rows.laid_internal_strconv_powtab), ("internal/strconv.float64pow10", Rows.laid_internal_strconv_float64pow10), ("internal/strconv.float32pow10", Rows.laid_internal_strconv_float32pow10), ("internal/strconv.uint64pow10", Rows.laid_internal_strconv_uint64pow10), ("math.pow10tab", Rows.laid_math_pow10tab), ("math.pow10postab32", Rows.laid_math_pow10postab32), ("math.pow10negtab32", Rows.laid_math_pow10negtab32), ("strconv.ErrRange", Rows.laid_strconv_ErrRange), ("strconv.ErrSyntax", Rows.laid_strconv_ErrSyntax), ("pub-tetrapla/pub/fastjson/fastfloat.float64pow10", Rows.laid_pub_tetrapla_pub_fastjson_fastfloat_float64pow10), ("internal/strconv.leftcheats", Rows.laid_internal_strconv_leftcheats), ("internal/strconv.pow10Tab", Rows.laid_internal_strconv_pow10Tab)] = true := by
  unfold Program.listedFits
  rw [noOwnUnsafe]
  kernel_rfl
theorem tie5 : Tryd.prog.laidByTextLater [("math/bits.deBruijn32tab", Rows.laid_math_bits_deBruijn32tab), ("math/bits.deBruijn64tab", Rows.laid_math_bits_deBruijn64tab), ("internal/strconv.float32info", Rows.laid_internal_strconv_float32info), ("internal/strconv.float64info", Rows.laid_internal_strconv_float64info), ("internal/strconv.optimize", Rows.laid_internal_strconv_optimize), ("internal/strconv.powtab", Rows.laid_internal_strconv_powtab), ("internal/strconv.float64pow10", Rows.laid_internal_strconv_float64pow10), ("internal/strconv.float32pow10", Rows.laid_internal_strconv_float32pow10), ("internal/strconv.uint64pow10", Rows.laid_internal_strconv_uint64pow10), ("math.pow10tab", Rows.laid_math_pow10tab), ("math.pow10postab32", Rows.laid_math_pow10postab32), ("math.pow10negtab32", Rows.laid_math_pow10negtab32), ("strconv.ErrRange", Rows.laid_strconv_ErrRange), ("strconv.ErrSyntax", Rows.laid_strconv_ErrSyntax), ("pub-tetrapla/pub/fastjson/fastfloat.float64pow10", Rows.laid_pub_tetrapla_pub_fastjson_fastfloat_float64pow10)] [.data, .data, .widerDeep, .widerDeep, .data, .data, .data, .data, .data, .data, .data, .data, .sentinel, .sentinel, .data] true :=
  Program.laidByTextLater.sub seatTie2 ["math/bits.deBruijn32tab", "math/bits.deBruijn64tab", "internal/strconv.float32info", "internal/strconv.float64info", "internal/strconv.optimize", "internal/strconv.powtab", "internal/strconv.float64pow10", "internal/strconv.float32pow10", "internal/strconv.uint64pow10", "math.pow10tab", "math.pow10postab32", "math.pow10negtab32", "strconv.ErrRange", "strconv.ErrSyntax", "pub-tetrapla/pub/fastjson/fastfloat.float64pow10"] (by kernel_rfl) (by kernel_rfl)
theorem fnFfFloatOther_row_tie : Rows.fnFfFloatOtherRow.laidByTextAt .later Tryd.pinned [.data, .data, .widerDeep, .widerDeep, .data, .data, .data, .data, .data, .data, .data, .data, .sentinel, .sentinel, .data, .pinned, .pinned] true :=
  OpenClaim.laidByTextAt_pinned rfl rfl tie5 rfl rfl rfl rfl (fun y hy _e => by
    simp only [Rows.fnFfFloatOtherRow, List.zip_cons_cons, List.zip_nil_right, List.mem_cons, List.mem_nil_iff, or_false] at hy
    rcases hy with rfl | rfl | rfl | rfl | rfl | rfl | rfl | rfl | rfl | rfl | rfl | rfl | rfl | rfl | rfl | rfl | rfl
    · cases _e
    · cases _e
    · cases _e
    · cases _e
    · cases _e
    · cases _e
    · cases _e
    · cases _e
    · cases _e
    · cases _e
    · cases _e
    · cases _e
    · cases _e
    · cases _e
    · cases _e
    · exact ⟨pin_laid_internal_strconv_leftcheats, by kernel_rfl⟩
    · exact ⟨pin_laid_internal_strconv_pow10Tab, by kernel_rfl⟩) fits5
theorem fnMtStarsUpto_row_tie : Rows.fnMtStarsUptoRow.laidByTextAt .later Tryd.pinned [.data, .pinned] true :=
  OpenClaim.laidByTextAt_pinned rfl rfl tie rfl rfl rfl rfl (fun y hy _e => by
    simp only [Rows.fnMtStarsUptoRow, List.zip_cons_cons, List.zip_nil_right, List.mem_cons, List.mem_nil_iff, or_false] at hy
    rcases hy with rfl | rfl
    · cases _e
    · exact ⟨pin_laid_unicode_utf8_first, by kernel_rfl⟩) fits1
theorem fnMtWiderUpto_row_tie : Rows.fnMtWiderUptoRow.laidByTextAt .later Tryd.pinned [.data, .pinned] true :=
  OpenClaim.laidByTextAt_pinned rfl rfl tie rfl rfl rfl rfl (fun y hy _e => by
    simp only [Rows.fnMtWiderUptoRow, List.zip_cons_cons, List.zip_nil_right, List.mem_cons, List.mem_nil_iff, or_false] at hy
    rcases hy with rfl | rfl
    · cases _e
    · exact ⟨pin_laid_unicode_utf8_first, by kernel_rfl⟩) fits1
theorem fnGjTrueishUpto_row_tie : Rows.fnGjTrueishUptoRow.laidByTextAt .later Tryd.pinned [.data, .data, .data, .sentinel, .sentinel] true :=
  OpenClaim.laidByTextAt_later rfl rfl tie2 noOwnUnsafe
theorem fnGjResultIntTextUpto_row_tie : Rows.fnGjResultIntTextUptoRow.laidByTextAt .later Tryd.pinned [.data, .data, .widerDeep, .widerDeep, .data, .data, .data, .data, .data, .sentinel, .sentinel, .pinned, .pinned] true :=
  OpenClaim.laidByTextAt_pinned rfl rfl tie3 rfl rfl rfl rfl (fun y hy _e => by
    simp only [Rows.fnGjResultIntTextUptoRow, List.zip_cons_cons, List.zip_nil_right, List.mem_cons, List.mem_nil_iff, or_false] at hy
    rcases hy with rfl | rfl | rfl | rfl | rfl | rfl | rfl | rfl | rfl | rfl | rfl | rfl | rfl
    · cases _e
    · cases _e
    · cases _e
    · cases _e
    · cases _e
    · cases _e
    · cases _e
    · cases _e
    · cases _e
    · cases _e
    · cases _e
    · exact ⟨pin_laid_internal_strconv_leftcheats, by kernel_rfl⟩
    · exact ⟨pin_laid_internal_strconv_pow10Tab, by kernel_rfl⟩) fits3
theorem fnPrLessNamesUpto_row_tie : Rows.fnPrLessNamesUptoRow.laidByTextAt .later Tryd.pinned [.data, .data, .widerDeep, .widerDeep, .data, .data, .data, .data, .data, .data, .sentinel, .sentinel, .pinned, .pinned, .pinned] true :=
  OpenClaim.laidByTextAt_pinned rfl rfl tie4 rfl rfl rfl rfl (fun y hy _e => by
    simp only [Rows.fnPrLessNamesUptoRow, List.zip_cons_cons, List.zip_nil_right, List.mem_cons, List.mem_nil_iff, or_false] at hy
    rcases hy with rfl | rfl | rfl | rfl | rfl | rfl | rfl | rfl | rfl | rfl | rfl | rfl | rfl | rfl | rfl
    · cases _e
    · cases _e
    · cases _e
    · cases _e
    · cases _e
    · cases _e
    · cases _e
    · cases _e
    · cases _e
    · cases _e
    · cases _e
    · cases _e
    · exact ⟨pin_laid_internal_strconv_leftcheats, by kernel_rfl⟩
    · exact ⟨pin_laid_internal_strconv_pow10Tab, by kernel_rfl⟩
    · exact ⟨pin_laid_unicode_utf8_first, by kernel_rfl⟩) fits4
theorem fnGjLessNumbersUpto_row_tie : Rows.fnGjLessNumbersUptoRow.laidByTextAt .later Tryd.pinned [.data, .data, .widerDeep, .widerDeep, .data, .data, .data, .data, .data, .sentinel, .sentinel, .pinned, .pinned] true :=
  OpenClaim.laidByTextAt_pinned rfl rfl tie3 rfl rfl rfl rfl (fun y hy _e => by
    simp only [Rows.fnGjLessNumbersUptoRow, List.zip_cons_cons, List.zip_nil_right, List.mem_cons, List.mem_nil_iff, or_false] at hy
    rcases hy with rfl | rfl | rfl | rfl | rfl | rfl | rfl | rfl | rfl | rfl | rfl | rfl | rfl
    · cases _e
    · cases _e
    · cases _e
    · cases _e
    · cases _e
    · cases _e
    · cases _e
    · cases _e
    · cases _e
    · cases _e
    · cases _e
    · exact ⟨pin_laid_internal_strconv_leftcheats, by kernel_rfl⟩
    · exact ⟨pin_laid_internal_strconv_pow10Tab, by kernel_rfl⟩) fits3
theorem fnGjUintUpto_row_tie : Rows.fnGjUintUptoRow.laidByTextAt .later Tryd.pinned [.data, .data, .widerDeep, .widerDeep, .data, .data, .data, .data, .data, .sentinel, .sentinel, .pinned, .pinned] true :=
  OpenClaim.laidByTextAt_pinned rfl rfl tie3 rfl rfl rfl rfl (fun y hy _e => by
    simp only [Rows.fnGjUintUptoRow, List.zip_cons_cons, List.zip_nil_right, List.mem_cons, List.mem_nil_iff, or_false] at hy
    rcases hy with rfl | rfl | rfl | rfl | rfl | rfl | rfl | rfl | rfl | rfl | rfl | rfl | rfl
    · cases _e
    · cases _e
    · cases _e
    · cases _e
    · cases _e
    · cases _e
    · cases _e
    · cases _e
    · cases _e
    · cases _e
    · cases _e
    · exact ⟨pin_laid_internal_strconv_leftcheats, by kernel_rfl⟩
    · exact ⟨pin_laid_internal_strconv_pow10Tab, by kernel_rfl⟩) fits3
theorem fnFfFloatOtherUpto_row_tie : Rows.fnFfFloatOtherUptoRow.laidByTextAt .later Tryd.pinned [.data, .data, .widerDeep, .widerDeep, .data, .data, .data, .data, .data, .data, .data, .data, .sentinel, .sentinel, .data, .pinned, .pinned] true :=
  OpenClaim.laidByTextAt_pinned rfl rfl tie5 rfl rfl rfl rfl (fun y hy _e => by
    simp only [Rows.fnFfFloatOtherUptoRow, List.zip_cons_cons, List.zip_nil_right, List.mem_cons, List.mem_nil_iff, or_false] at hy
    rcases hy with rfl | rfl | rfl | rfl | rfl | rfl | rfl | rfl | rfl | rfl | rfl | rfl | rfl | rfl | rfl | rfl | rfl
    · cases _e
    · cases _e
    · cases _e
    · cases _e
    · cases _e
    · cases _e
    · cases _e
    · cases _e
    · cases _e
    · cases _e
    · cases _e
    · cases _e
    · cases _e
    · cases _e
    · cases _e
    · exact ⟨pin_laid_internal_strconv_leftcheats, by kernel_rfl⟩
    · exact ⟨pin_laid_internal_strconv_pow10Tab, by kernel_rfl⟩) fits5
end Go.Proofs.YtphpjboljlkdkaaDoor
