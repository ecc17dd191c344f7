/-
  DERIVED. GIVEN WITH THE SEED: THE PROGRAM's TIES (one call each: nine closed facts by the kernel) AND EACH ROW's TIE, after the 31st guide's Derived/Test/Toyas{Tie, Card}.lean. No idea stands in it: it is a product of the set-up. Laid BY PROGRAM, IN A SANDBOX (cutbox-door.mjs). By AI agents, Wed Nov 11 2026. No macro, syntax, notation, axiom, sorry.
-/
import Derived.Test.YtmeihdlkadjoeaaDoorRows
import Derived.LaidByTextLater
import Derived.SevenTiedAt
import Derived.LaidSub
import Derived.LaidOnce
namespace Go.Proofs.YtmeihdlkadjoeaaDoor
open Go
set_option maxRecDepth 100000
theorem seatTie1 : Tryd.prog.laidByTextLater [("unicode/utf8.acceptRanges", Rows.laid_unicode_utf8_acceptRanges), ("io.EOF", Rows.laid_io_EOF), ("unicode.White_Space", Rows.laid_unicode_White_Space), ("unicode.properties", Rows.laid_unicode_properties), ("bytes.ErrTooLarge", Rows.laid_bytes_ErrTooLarge), ("strings.asciiSpace", Rows.laid_strings_asciiSpace)] [.data, .sentinel, .listed, .data, .sentinel, .data] true :=
  Program.laidByTextLater_by_one 86 8 257 (by kernel_rfl) (by kernel_rfl) (by kernel_rfl) (by kernel_rfl) (by kernel_rfl) (by kernel_rfl) (fun _ _ => by kernel_rfl)
theorem pin_laid_unicode_Digit : Tryd.pinned.checked.prog.pinnedFits "unicode.Digit" = true := by kernel_rfl
theorem pin_laid_unicode_Letter : Tryd.pinned.checked.prog.pinnedFits "unicode.Letter" = true := by kernel_rfl
theorem pin_laid_unicode_utf8_first : Tryd.pinned.checked.prog.pinnedFits "unicode/utf8.first" = true := by kernel_rfl
theorem noOwnUnsafe : Tryd.pinned.checked.prog.headLifts.contains "ownunsafe" = false := by kernel_rfl
theorem fits1 : Tryd.pinned.checked.prog.listedFits [("unicode/utf8.acceptRanges", Rows.laid_unicode_utf8_acceptRanges), ("io.EOF", Rows.laid_io_EOF), ("unicode.White_Space", Rows.laid_unicode_White_Space), ("unicode.properties", Rows.laid_unicode_properties), ("bytes.ErrTooLarge", Rows.laid_bytes_ErrTooLarge), ("strings.asciiSpace", Rows.laid_strings_asciiSpace), ("unicode.Digit", Rows.laid_unicode_Digit), ("unicode.Letter", Rows.laid_unicode_Letter), ("unicode/utf8.first", Rows.laid_unicode_utf8_first)] = true := by
  unfold Program.listedFits
  rw [noOwnUnsafe]
  kernel_rfl
theorem tie : Tryd.prog.laidByTextLater [("unicode/utf8.acceptRanges", Rows.laid_unicode_utf8_acceptRanges), ("io.EOF", Rows.laid_io_EOF), ("unicode.White_Space", Rows.laid_unicode_White_Space), ("unicode.properties", Rows.laid_unicode_properties), ("bytes.ErrTooLarge", Rows.laid_bytes_ErrTooLarge), ("strings.asciiSpace", Rows.laid_strings_asciiSpace)] [.data, .sentinel, .listed, .data, .sentinel, .data] true :=
  Program.laidByTextLater.sub seatTie1 ["unicode/utf8.acceptRanges", "io.EOF", "unicode.White_Space", "unicode.properties", "bytes.ErrTooLarge", "strings.asciiSpace"] (by kernel_rfl) (by kernel_rfl)
theorem fnReadTokens_row_tie : Rows.fnReadTokensRow.laidByTextAt .later Tryd.pinned [.data, .sentinel, .listed, .data, .sentinel, .data, .pinned, .pinned, .pinned] true :=
  OpenClaim.laidByTextAt_pinned rfl rfl tie rfl rfl rfl rfl (fun y hy _e => by
    simp only [Rows.fnReadTokensRow, List.zip_cons_cons, List.zip_nil_right, List.mem_cons, List.mem_nil_iff, or_false] at hy
    rcases hy with rfl | rfl | rfl | rfl | rfl | rfl | rfl | rfl | rfl
    · cases _e
    · cases _e
    · cases _e
    · cases _e
    · cases _e
    · cases _e
    · exact ⟨pin_laid_unicode_Digit, by kernel_rfl⟩
    · exact ⟨pin_laid_unicode_Letter, by kernel_rfl⟩
    · exact ⟨pin_laid_unicode_utf8_first, by kernel_rfl⟩) fits1
theorem fnTokensOne_row_tie : Rows.fnTokensOneRow.laidByTextAt .later Tryd.pinned [.data, .sentinel, .listed, .data, .sentinel, .data, .pinned, .pinned, .pinned] true :=
  OpenClaim.laidByTextAt_pinned rfl rfl tie rfl rfl rfl rfl (fun y hy _e => by
    simp only [Rows.fnTokensOneRow, List.zip_cons_cons, List.zip_nil_right, List.mem_cons, List.mem_nil_iff, or_false] at hy
    rcases hy with rfl | rfl | rfl | rfl | rfl | rfl | rfl | rfl | rfl
    · cases _e
    · cases _e
    · cases _e
    · cases _e
    · cases _e
    · cases _e
    · exact ⟨pin_laid_unicode_Digit, by kernel_rfl⟩
    · exact ⟨pin_laid_unicode_Letter, by kernel_rfl⟩
    · exact ⟨pin_laid_unicode_utf8_first, by kernel_rfl⟩) fits1
theorem fnNameToken_row_tie : Rows.fnNameTokenRow.laidByTextAt .later Tryd.pinned [.data, .sentinel, .listed, .data, .sentinel, .data, .pinned, .pinned, .pinned] true :=
  OpenClaim.laidByTextAt_pinned rfl rfl tie rfl rfl rfl rfl (fun y hy _e => by
    simp only [Rows.fnNameTokenRow, List.zip_cons_cons, List.zip_nil_right, List.mem_cons, List.mem_nil_iff, or_false] at hy
    rcases hy with rfl | rfl | rfl | rfl | rfl | rfl | rfl | rfl | rfl
    · cases _e
    · cases _e
    · cases _e
    · cases _e
    · cases _e
    · cases _e
    · exact ⟨pin_laid_unicode_Digit, by kernel_rfl⟩
    · exact ⟨pin_laid_unicode_Letter, by kernel_rfl⟩
    · exact ⟨pin_laid_unicode_utf8_first, by kernel_rfl⟩) fits1
theorem fnReadTokensUpto_row_tie : Rows.fnReadTokensUptoRow.laidByTextAt .later Tryd.pinned [.data, .sentinel, .listed, .data, .sentinel, .data, .pinned, .pinned, .pinned] true :=
  OpenClaim.laidByTextAt_pinned rfl rfl tie rfl rfl rfl rfl (fun y hy _e => by
    simp only [Rows.fnReadTokensUptoRow, List.zip_cons_cons, List.zip_nil_right, List.mem_cons, List.mem_nil_iff, or_false] at hy
    rcases hy with rfl | rfl | rfl | rfl | rfl | rfl | rfl | rfl | rfl
    · cases _e
    · cases _e
    · cases _e
    · cases _e
    · cases _e
    · cases _e
    · exact ⟨pin_laid_unicode_Digit, by kernel_rfl⟩
    · exact ⟨pin_laid_unicode_Letter, by kernel_rfl⟩
    · exact ⟨pin_laid_unicode_utf8_first, by kernel_rfl⟩) fits1
theorem fnTokensOneUpto_row_tie : Rows.fnTokensOneUptoRow.laidByTextAt .later Tryd.pinned [.data, .sentinel, .listed, .data, .sentinel, .data, .pinned, .pinned, .pinned] true :=
  OpenClaim.laidByTextAt_pinned rfl rfl tie rfl rfl rfl rfl (fun y hy _e => by
    simp only [Rows.fnTokensOneUptoRow, List.zip_cons_cons, List.zip_nil_right, List.mem_cons, List.mem_nil_iff, or_false] at hy
    rcases hy with rfl | rfl | rfl | rfl | rfl | rfl | rfl | rfl | rfl
    · cases _e
    · cases _e
    · cases _e
    · cases _e
    · cases _e
    · cases _e
    · exact ⟨pin_laid_unicode_Digit, by kernel_rfl⟩
    · exact ⟨pin_laid_unicode_Letter, by kernel_rfl⟩
    · exact ⟨pin_laid_unicode_utf8_first, by kernel_rfl⟩) fits1
theorem fnNameTokenUpto_row_tie : Rows.fnNameTokenUptoRow.laidByTextAt .later Tryd.pinned [.data, .sentinel, .listed, .data, .sentinel, .data, .pinned, .pinned, .pinned] true :=
  OpenClaim.laidByTextAt_pinned rfl rfl tie rfl rfl rfl rfl (fun y hy _e => by
    simp only [Rows.fnNameTokenUptoRow, List.zip_cons_cons, List.zip_nil_right, List.mem_cons, List.mem_nil_iff, or_false] at hy
    rcases hy with rfl | rfl | rfl | rfl | rfl | rfl | rfl | rfl | rfl
    · cases _e
    · cases _e
    · cases _e
    · cases _e
    · cases _e
    · cases _e
    · exact ⟨pin_laid_unicode_Digit, by kernel_rfl⟩
    · exact ⟨pin_laid_unicode_Letter, by kernel_rfl⟩
    · exact ⟨pin_laid_unicode_utf8_first, by kernel_rfl⟩) fits1
end Go.Proofs.YtmeihdlkadjoeaaDoor
