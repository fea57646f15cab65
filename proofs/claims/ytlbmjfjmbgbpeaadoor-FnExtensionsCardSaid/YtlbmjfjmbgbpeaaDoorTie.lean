/-
  DERIVED. GIVEN WITH THE SEED: THE PROGRAM's TIES (one call each: nine closed facts by the kernel) AND EACH ROW's TIE, after the 31st guide's Derived/Test/Toyas{Tie, Card}.lean. No idea stands in it: it is a product of the set-up. Laid BY PROGRAM, IN A SANDBOX (cutbox-door.mjs). By AI agents, Wed Nov 11 2026. No macro, syntax, notation, axiom, sorry.
-/
import Derived.Test.YtlbmjfjmbgbpeaaDoorRows
import Derived.LaidByTextLater
import Derived.SevenTiedAt
import Derived.LaidSub
import Derived.LaidOnce
namespace Go.Proofs.YtlbmjfjmbgbpeaaDoor
open Go
set_option maxRecDepth 100000
theorem seatTie1 : Tryd.prog.laidByTextLater [("unicode/utf8.acceptRanges", Rows.laid_unicode_utf8_acceptRanges), ("unicode.asciiFold", Rows.laid_unicode_asciiFold), ("unicode.caseOrbit", Rows.laid_unicode_caseOrbit)] [.data, .data, .data] true :=
  Program.laidByTextLater_by_one 295 8 257 (by kernel_rfl) (by kernel_rfl) (by kernel_rfl) (by kernel_rfl) (by kernel_rfl) (by kernel_rfl) (fun _ _ => by kernel_rfl)
theorem seatTie2 : Tryd.prog.laidByTextLater [("math/bits.deBruijn32tab", Rows.laid_math_bits_deBruijn32tab), ("math/bits.deBruijn64tab", Rows.laid_math_bits_deBruijn64tab), ("internal/strconv.uint64pow10", Rows.laid_internal_strconv_uint64pow10), ("unicode/utf8.acceptRanges", Rows.laid_unicode_utf8_acceptRanges), ("strconv.ErrRange", Rows.laid_strconv_ErrRange), ("strconv.ErrSyntax", Rows.laid_strconv_ErrSyntax), ("unicode.White_Space", Rows.laid_unicode_White_Space), ("strings.asciiSpace", Rows.laid_strings_asciiSpace)] [.data, .data, .data, .data, .sentinel, .sentinel, .listed, .data] true :=
  Program.laidByTextLater_by_one 295 8 257 (by kernel_rfl) (by kernel_rfl) (by kernel_rfl) (by kernel_rfl) (by kernel_rfl) (by kernel_rfl) (fun _ _ => by kernel_rfl)
theorem seatTie3 : Tryd.prog.laidByTextLater [("unicode/utf8.acceptRanges", Rows.laid_unicode_utf8_acceptRanges), ("unicode.White_Space", Rows.laid_unicode_White_Space), ("unicode.asciiFold", Rows.laid_unicode_asciiFold), ("unicode.caseOrbit", Rows.laid_unicode_caseOrbit), ("strings.asciiSpace", Rows.laid_strings_asciiSpace)] [.data, .listed, .data, .data, .data] true :=
  Program.laidByTextLater_by_one 295 8 257 (by kernel_rfl) (by kernel_rfl) (by kernel_rfl) (by kernel_rfl) (by kernel_rfl) (by kernel_rfl) (fun _ _ => by kernel_rfl)
theorem seatTie4 : Tryd.prog.laidByTextLater [("math/bits.deBruijn32tab", Rows.laid_math_bits_deBruijn32tab), ("math/bits.deBruijn64tab", Rows.laid_math_bits_deBruijn64tab), ("internal/strconv.uint64pow10", Rows.laid_internal_strconv_uint64pow10), ("strconv.ErrRange", Rows.laid_strconv_ErrRange), ("strconv.ErrSyntax", Rows.laid_strconv_ErrSyntax), ("webrtctexts/pub/sdp.errExtractCodecRtpmap", Rows.laid_webrtctexts_pub_sdp_errExtractCodecRtpmap), ("webrtctexts/pub/sdp.errExtractCodecFmtp", Rows.laid_webrtctexts_pub_sdp_errExtractCodecFmtp), ("webrtctexts/pub/sdp.errExtractCodecRtcpFb", Rows.laid_webrtctexts_pub_sdp_errExtractCodecRtcpFb)] [.data, .data, .data, .sentinel, .sentinel, .sentinel, .sentinel, .sentinel] true :=
  Program.laidByTextLater_by_one 295 8 257 (by kernel_rfl) (by kernel_rfl) (by kernel_rfl) (by kernel_rfl) (by kernel_rfl) (by kernel_rfl) (fun _ _ => by kernel_rfl)
theorem seatTie5 : Tryd.prog.laidByTextLater [("unicode/utf8.acceptRanges", Rows.laid_unicode_utf8_acceptRanges), ("unicode.White_Space", Rows.laid_unicode_White_Space), ("strings.asciiSpace", Rows.laid_strings_asciiSpace)] [.data, .listed, .data] true :=
  Program.laidByTextLater_by_one 295 8 257 (by kernel_rfl) (by kernel_rfl) (by kernel_rfl) (by kernel_rfl) (by kernel_rfl) (by kernel_rfl) (fun _ _ => by kernel_rfl)
theorem seatTie6 : Tryd.prog.laidByTextLater [("math/bits.deBruijn32tab", Rows.laid_math_bits_deBruijn32tab), ("math/bits.deBruijn64tab", Rows.laid_math_bits_deBruijn64tab), ("internal/strconv.uint64pow10", Rows.laid_internal_strconv_uint64pow10), ("strconv.ErrRange", Rows.laid_strconv_ErrRange), ("strconv.ErrSyntax", Rows.laid_strconv_ErrSyntax), ("unicode.White_Space", Rows.laid_unicode_White_Space), ("strings.asciiSpace", Rows.laid_strings_asciiSpace), ("webrtctexts/pub/sdp.errDirectionString", Rows.laid_webrtctexts_pub_sdp_errDirectionString), ("webrtctexts/pub/sdp.errSyntaxError", Rows.laid_webrtctexts_pub_sdp_errSyntaxError)] [.data, .data, .data, .sentinel, .sentinel, .listed, .data, .sentinel, .sentinel] true :=
  Program.laidByTextLater_by_one 295 8 257 (by kernel_rfl) (by kernel_rfl) (by kernel_rfl) (by kernel_rfl) (by kernel_rfl) (by kernel_rfl) (fun _ _ => by kernel_rfl)
theorem pin_laid_unicode_CaseRanges : Tryd.pinned.checked.prog.pinnedFits "unicode.CaseRanges" = true := by kernel_rfl
theorem pin_laid_unicode_utf8_first : Tryd.pinned.checked.prog.pinnedFits "unicode/utf8.first" = true := by kernel_rfl
theorem noOwnUnsafe : Tryd.pinned.checked.prog.headLifts.contains "ownunsafe" = false := by kernel_rfl
theorem fits1 : Tryd.pinned.checked.prog.listedFits [("unicode/utf8.acceptRanges", Rows.laid_unicode_utf8_acceptRanges), ("unicode.asciiFold", Rows.laid_unicode_asciiFold), ("unicode.caseOrbit", Rows.laid_unicode_caseOrbit), ("unicode.CaseRanges", Rows.laid_unicode_CaseRanges), ("unicode/utf8.first", Rows.laid_unicode_utf8_first)] = true := by
  unfold Program.listedFits
  rw [noOwnUnsafe]
  kernel_rfl
theorem tie : Tryd.prog.laidByTextLater [("unicode/utf8.acceptRanges", Rows.laid_unicode_utf8_acceptRanges), ("unicode.asciiFold", Rows.laid_unicode_asciiFold), ("unicode.caseOrbit", Rows.laid_unicode_caseOrbit)] [.data, .data, .data] true :=
  Program.laidByTextLater.sub seatTie1 ["unicode/utf8.acceptRanges", "unicode.asciiFold", "unicode.caseOrbit"] (by kernel_rfl) (by kernel_rfl)
theorem fnSame_row_tie : Rows.fnSameRow.laidByTextAt .later Tryd.pinned [.data, .data, .data, .pinned, .pinned] true :=
  OpenClaim.laidByTextAt_pinned rfl rfl tie rfl rfl rfl rfl (fun y hy _e => by
    simp only [Rows.fnSameRow, List.zip_cons_cons, List.zip_nil_right, List.mem_cons, List.mem_nil_iff, or_false] at hy
    rcases hy with rfl | rfl | rfl | rfl | rfl
    · cases _e
    · cases _e
    · cases _e
    · exact ⟨pin_laid_unicode_CaseRanges, by kernel_rfl⟩
    · exact ⟨pin_laid_unicode_utf8_first, by kernel_rfl⟩) fits1
theorem fits2 : Tryd.pinned.checked.prog.listedFits [("math/bits.deBruijn32tab", Rows.laid_math_bits_deBruijn32tab), ("math/bits.deBruijn64tab", Rows.laid_math_bits_deBruijn64tab), ("internal/strconv.uint64pow10", Rows.laid_internal_strconv_uint64pow10), ("unicode/utf8.acceptRanges", Rows.laid_unicode_utf8_acceptRanges), ("strconv.ErrRange", Rows.laid_strconv_ErrRange), ("strconv.ErrSyntax", Rows.laid_strconv_ErrSyntax), ("unicode.White_Space", Rows.laid_unicode_White_Space), ("strings.asciiSpace", Rows.laid_strings_asciiSpace), ("unicode/utf8.first", Rows.laid_unicode_utf8_first)] = true := by
  unfold Program.listedFits
  rw [noOwnUnsafe]
  kernel_rfl
theorem tie2 : Tryd.prog.laidByTextLater [("math/bits.deBruijn32tab", Rows.laid_math_bits_deBruijn32tab), ("math/bits.deBruijn64tab", Rows.laid_math_bits_deBruijn64tab), ("internal/strconv.uint64pow10", Rows.laid_internal_strconv_uint64pow10), ("unicode/utf8.acceptRanges", Rows.laid_unicode_utf8_acceptRanges), ("strconv.ErrRange", Rows.laid_strconv_ErrRange), ("strconv.ErrSyntax", Rows.laid_strconv_ErrSyntax), ("unicode.White_Space", Rows.laid_unicode_White_Space), ("strings.asciiSpace", Rows.laid_strings_asciiSpace)] [.data, .data, .data, .data, .sentinel, .sentinel, .listed, .data] true :=
  Program.laidByTextLater.sub seatTie2 ["math/bits.deBruijn32tab", "math/bits.deBruijn64tab", "internal/strconv.uint64pow10", "unicode/utf8.acceptRanges", "strconv.ErrRange", "strconv.ErrSyntax", "unicode.White_Space", "strings.asciiSpace"] (by kernel_rfl) (by kernel_rfl)
theorem fnFlags_row_tie : Rows.fnFlagsRow.laidByTextAt .later Tryd.pinned [.data, .data, .data, .data, .sentinel, .sentinel, .listed, .data, .pinned] true :=
  OpenClaim.laidByTextAt_pinned rfl rfl tie2 rfl rfl rfl rfl (fun y hy _e => by
    simp only [Rows.fnFlagsRow, List.zip_cons_cons, List.zip_nil_right, List.mem_cons, List.mem_nil_iff, or_false] at hy
    rcases hy with rfl | rfl | rfl | rfl | rfl | rfl | rfl | rfl | rfl
    · cases _e
    · cases _e
    · cases _e
    · cases _e
    · cases _e
    · cases _e
    · cases _e
    · cases _e
    · exact ⟨pin_laid_unicode_utf8_first, by kernel_rfl⟩) fits2
theorem fits3 : Tryd.pinned.checked.prog.listedFits [("unicode/utf8.acceptRanges", Rows.laid_unicode_utf8_acceptRanges), ("unicode.White_Space", Rows.laid_unicode_White_Space), ("unicode.asciiFold", Rows.laid_unicode_asciiFold), ("unicode.caseOrbit", Rows.laid_unicode_caseOrbit), ("strings.asciiSpace", Rows.laid_strings_asciiSpace), ("unicode.CaseRanges", Rows.laid_unicode_CaseRanges), ("unicode/utf8.first", Rows.laid_unicode_utf8_first)] = true := by
  unfold Program.listedFits
  rw [noOwnUnsafe]
  kernel_rfl
theorem tie3 : Tryd.prog.laidByTextLater [("unicode/utf8.acceptRanges", Rows.laid_unicode_utf8_acceptRanges), ("unicode.White_Space", Rows.laid_unicode_White_Space), ("unicode.asciiFold", Rows.laid_unicode_asciiFold), ("unicode.caseOrbit", Rows.laid_unicode_caseOrbit), ("strings.asciiSpace", Rows.laid_strings_asciiSpace)] [.data, .listed, .data, .data, .data] true :=
  Program.laidByTextLater.sub seatTie3 ["unicode/utf8.acceptRanges", "unicode.White_Space", "unicode.asciiFold", "unicode.caseOrbit", "strings.asciiSpace"] (by kernel_rfl) (by kernel_rfl)
theorem fnParameter_row_tie : Rows.fnParameterRow.laidByTextAt .later Tryd.pinned [.data, .listed, .data, .data, .data, .pinned, .pinned] true :=
  OpenClaim.laidByTextAt_pinned rfl rfl tie3 rfl rfl rfl rfl (fun y hy _e => by
    simp only [Rows.fnParameterRow, List.zip_cons_cons, List.zip_nil_right, List.mem_cons, List.mem_nil_iff, or_false] at hy
    rcases hy with rfl | rfl | rfl | rfl | rfl | rfl | rfl
    · cases _e
    · cases _e
    · cases _e
    · cases _e
    · cases _e
    · exact ⟨pin_laid_unicode_CaseRanges, by kernel_rfl⟩
    · exact ⟨pin_laid_unicode_utf8_first, by kernel_rfl⟩) fits3
theorem tie4 : Tryd.prog.laidByTextLater [("math/bits.deBruijn32tab", Rows.laid_math_bits_deBruijn32tab), ("math/bits.deBruijn64tab", Rows.laid_math_bits_deBruijn64tab), ("internal/strconv.uint64pow10", Rows.laid_internal_strconv_uint64pow10), ("strconv.ErrRange", Rows.laid_strconv_ErrRange), ("strconv.ErrSyntax", Rows.laid_strconv_ErrSyntax), ("webrtctexts/pub/sdp.errExtractCodecRtpmap", Rows.laid_webrtctexts_pub_sdp_errExtractCodecRtpmap), ("webrtctexts/pub/sdp.errExtractCodecFmtp", Rows.laid_webrtctexts_pub_sdp_errExtractCodecFmtp), ("webrtctexts/pub/sdp.errExtractCodecRtcpFb", Rows.laid_webrtctexts_pub_sdp_errExtractCodecRtcpFb)] [.data, .data, .data, .sentinel, .sentinel, .sentinel, .sentinel, .sentinel] true :=
  Program.laidByTextLater.sub seatTie4 ["math/bits.deBruijn32tab", "math/bits.deBruijn64tab", "internal/strconv.uint64pow10", "strconv.ErrRange", "strconv.ErrSyntax", "webrtctexts/pub/sdp.errExtractCodecRtpmap", "webrtctexts/pub/sdp.errExtractCodecFmtp", "webrtctexts/pub/sdp.errExtractCodecRtcpFb"] (by kernel_rfl) (by kernel_rfl)
theorem fnCodecs_row_tie : Rows.fnCodecsRow.laidByTextAt .later Tryd.pinned [.data, .data, .data, .sentinel, .sentinel, .sentinel, .sentinel, .sentinel] true :=
  OpenClaim.laidByTextAt_later rfl rfl tie4 noOwnUnsafe
theorem fits5 : Tryd.pinned.checked.prog.listedFits [("unicode/utf8.acceptRanges", Rows.laid_unicode_utf8_acceptRanges), ("unicode.White_Space", Rows.laid_unicode_White_Space), ("strings.asciiSpace", Rows.laid_strings_asciiSpace), ("unicode.CaseRanges", Rows.laid_unicode_CaseRanges), ("unicode/utf8.first", Rows.laid_unicode_utf8_first)] = true := by
  unfold Program.listedFits
  rw [noOwnUnsafe]
  kernel_rfl
theorem tie5 : Tryd.prog.laidByTextLater [("unicode/utf8.acceptRanges", Rows.laid_unicode_utf8_acceptRanges), ("unicode.White_Space", Rows.laid_unicode_White_Space), ("strings.asciiSpace", Rows.laid_strings_asciiSpace)] [.data, .listed, .data] true :=
  Program.laidByTextLater.sub seatTie5 ["unicode/utf8.acceptRanges", "unicode.White_Space", "strings.asciiSpace"] (by kernel_rfl) (by kernel_rfl)
theorem fnParams_row_tie : Rows.fnParamsRow.laidByTextAt .later Tryd.pinned [.data, .listed, .data, .pinned, .pinned] true :=
  OpenClaim.laidByTextAt_pinned rfl rfl tie5 rfl rfl rfl rfl (fun y hy _e => by
    simp only [Rows.fnParamsRow, List.zip_cons_cons, List.zip_nil_right, List.mem_cons, List.mem_nil_iff, or_false] at hy
    rcases hy with rfl | rfl | rfl | rfl | rfl
    · cases _e
    · cases _e
    · cases _e
    · exact ⟨pin_laid_unicode_CaseRanges, by kernel_rfl⟩
    · exact ⟨pin_laid_unicode_utf8_first, by kernel_rfl⟩) fits5
theorem tie6 : Tryd.prog.laidByTextLater [("math/bits.deBruijn32tab", Rows.laid_math_bits_deBruijn32tab), ("math/bits.deBruijn64tab", Rows.laid_math_bits_deBruijn64tab), ("internal/strconv.uint64pow10", Rows.laid_internal_strconv_uint64pow10), ("strconv.ErrRange", Rows.laid_strconv_ErrRange), ("strconv.ErrSyntax", Rows.laid_strconv_ErrSyntax), ("unicode.White_Space", Rows.laid_unicode_White_Space), ("strings.asciiSpace", Rows.laid_strings_asciiSpace), ("webrtctexts/pub/sdp.errDirectionString", Rows.laid_webrtctexts_pub_sdp_errDirectionString), ("webrtctexts/pub/sdp.errSyntaxError", Rows.laid_webrtctexts_pub_sdp_errSyntaxError)] [.data, .data, .data, .sentinel, .sentinel, .listed, .data, .sentinel, .sentinel] true :=
  Program.laidByTextLater.sub seatTie6 ["math/bits.deBruijn32tab", "math/bits.deBruijn64tab", "internal/strconv.uint64pow10", "strconv.ErrRange", "strconv.ErrSyntax", "unicode.White_Space", "strings.asciiSpace", "webrtctexts/pub/sdp.errDirectionString", "webrtctexts/pub/sdp.errSyntaxError"] (by kernel_rfl) (by kernel_rfl)
theorem fnExtensions_row_tie : Rows.fnExtensionsRow.laidByTextAt .later Tryd.pinned [.data, .data, .data, .sentinel, .sentinel, .listed, .data, .sentinel, .sentinel] true :=
  OpenClaim.laidByTextAt_later rfl rfl tie6 noOwnUnsafe
theorem fnSameUpto_row_tie : Rows.fnSameUptoRow.laidByTextAt .later Tryd.pinned [.data, .data, .data, .pinned, .pinned] true :=
  OpenClaim.laidByTextAt_pinned rfl rfl tie rfl rfl rfl rfl (fun y hy _e => by
    simp only [Rows.fnSameUptoRow, List.zip_cons_cons, List.zip_nil_right, List.mem_cons, List.mem_nil_iff, or_false] at hy
    rcases hy with rfl | rfl | rfl | rfl | rfl
    · cases _e
    · cases _e
    · cases _e
    · exact ⟨pin_laid_unicode_CaseRanges, by kernel_rfl⟩
    · exact ⟨pin_laid_unicode_utf8_first, by kernel_rfl⟩) fits1
theorem fnFlagsUpto_row_tie : Rows.fnFlagsUptoRow.laidByTextAt .later Tryd.pinned [.data, .data, .data, .data, .sentinel, .sentinel, .listed, .data, .pinned] true :=
  OpenClaim.laidByTextAt_pinned rfl rfl tie2 rfl rfl rfl rfl (fun y hy _e => by
    simp only [Rows.fnFlagsUptoRow, List.zip_cons_cons, List.zip_nil_right, List.mem_cons, List.mem_nil_iff, or_false] at hy
    rcases hy with rfl | rfl | rfl | rfl | rfl | rfl | rfl | rfl | rfl
    · cases _e
    · cases _e
    · cases _e
    · cases _e
    · cases _e
    · cases _e
    · cases _e
    · cases _e
    · exact ⟨pin_laid_unicode_utf8_first, by kernel_rfl⟩) fits2
theorem fnParameterUpto_row_tie : Rows.fnParameterUptoRow.laidByTextAt .later Tryd.pinned [.data, .listed, .data, .data, .data, .pinned, .pinned] true :=
  OpenClaim.laidByTextAt_pinned rfl rfl tie3 rfl rfl rfl rfl (fun y hy _e => by
    simp only [Rows.fnParameterUptoRow, List.zip_cons_cons, List.zip_nil_right, List.mem_cons, List.mem_nil_iff, or_false] at hy
    rcases hy with rfl | rfl | rfl | rfl | rfl | rfl | rfl
    · cases _e
    · cases _e
    · cases _e
    · cases _e
    · cases _e
    · exact ⟨pin_laid_unicode_CaseRanges, by kernel_rfl⟩
    · exact ⟨pin_laid_unicode_utf8_first, by kernel_rfl⟩) fits3
theorem fnCodecsUpto_row_tie : Rows.fnCodecsUptoRow.laidByTextAt .later Tryd.pinned [.data, .data, .data, .sentinel, .sentinel, .sentinel, .sentinel, .sentinel] true :=
  OpenClaim.laidByTextAt_later rfl rfl tie4 noOwnUnsafe
theorem fnParamsUpto_row_tie : Rows.fnParamsUptoRow.laidByTextAt .later Tryd.pinned [.data, .listed, .data, .pinned, .pinned] true :=
  OpenClaim.laidByTextAt_pinned rfl rfl tie5 rfl rfl rfl rfl (fun y hy _e => by
    simp only [Rows.fnParamsUptoRow, List.zip_cons_cons, List.zip_nil_right, List.mem_cons, List.mem_nil_iff, or_false] at hy
    rcases hy with rfl | rfl | rfl | rfl | rfl
    · cases _e
    · cases _e
    · cases _e
    · exact ⟨pin_laid_unicode_CaseRanges, by kernel_rfl⟩
    · exact ⟨pin_laid_unicode_utf8_first, by kernel_rfl⟩) fits5
theorem fnExtensionsUpto_row_tie : Rows.fnExtensionsUptoRow.laidByTextAt .later Tryd.pinned [.data, .data, .data, .sentinel, .sentinel, .listed, .data, .sentinel, .sentinel] true :=
  OpenClaim.laidByTextAt_later rfl rfl tie6 noOwnUnsafe
end Go.Proofs.YtlbmjfjmbgbpeaaDoor
