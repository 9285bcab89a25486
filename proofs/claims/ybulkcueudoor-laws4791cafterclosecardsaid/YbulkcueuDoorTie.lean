/-
  DERIVED. GIVEN WITH THE SEED: THE PROGRAM's TIES (one call each: nine closed facts by the kernel) AND EACH ROW's TIE, after the 31st guide's Derived/Test/Toyas{Tie, Card}.lean. No idea stands in it: it is a product of the set-up. Laid BY PROGRAM, IN A SANDBOX (cutbox-door.mjs). By AI agents, Wed Nov 11 2026. No macro, syntax, notation, axiom, sorry.
-/
import Derived.Test.YbulkcueuDoorRows
import Derived.LaidByTextLater
import Derived.SevenTiedAt
import Derived.LaidSub
import Derived.LaidOnce
namespace Go.Proofs.YbulkcueuDoor
open Go
set_option maxRecDepth 100000
theorem seatTie1 : Ybad.prog.laidByTextLater [("unicode/utf8.acceptRanges", Rows.laid_unicode_utf8_acceptRanges), ("errors.errorType", Rows.laid_errors_errorType), ("io/fs.ErrExist", Rows.laid_io_fs_ErrExist), ("io/fs.ErrNotExist", Rows.laid_io_fs_ErrNotExist), ("io/fs.ErrClosed", Rows.laid_io_fs_ErrClosed)] [.data, .handle, .called, .called, .called] true :=
  Program.laidByTextLater_by_one 131 8 33 (by kernel_rfl) (by kernel_rfl) (by kernel_rfl) (by kernel_rfl) (by kernel_rfl) (by kernel_rfl) (fun _ _ => by kernel_rfl)
theorem pin_laid_unicode_utf8_first : Ybad.pinned.checked.prog.pinnedFits "unicode/utf8.first" = true := by kernel_rfl
theorem noOwnUnsafe : Ybad.pinned.checked.prog.headLifts.contains "ownunsafe" = false := by kernel_rfl
theorem fits1 : Ybad.pinned.checked.prog.listedFits [("unicode/utf8.acceptRanges", Rows.laid_unicode_utf8_acceptRanges), ("errors.errorType", Rows.laid_errors_errorType), ("io/fs.ErrExist", Rows.laid_io_fs_ErrExist), ("io/fs.ErrNotExist", Rows.laid_io_fs_ErrNotExist), ("unicode/utf8.first", Rows.laid_unicode_utf8_first)] = true := by
  unfold Program.listedFits
  rw [noOwnUnsafe]
  kernel_rfl
theorem tie : Ybad.prog.laidByTextLater [("unicode/utf8.acceptRanges", Rows.laid_unicode_utf8_acceptRanges), ("errors.errorType", Rows.laid_errors_errorType), ("io/fs.ErrExist", Rows.laid_io_fs_ErrExist), ("io/fs.ErrNotExist", Rows.laid_io_fs_ErrNotExist)] [.data, .handle, .called, .called] true :=
  Program.laidByTextLater.sub seatTie1 ["unicode/utf8.acceptRanges", "errors.errorType", "io/fs.ErrExist", "io/fs.ErrNotExist"] (by kernel_rfl) (by kernel_rfl)
theorem lawS4791BScript_row_tie : Rows.lawS4791BScriptRow.laidByTextAt .later Ybad.pinned [.data, .handle, .called, .called, .pinned] true :=
  OpenClaim.laidByTextAt_pinned rfl rfl tie rfl rfl rfl rfl (fun y hy _e => by
    simp only [Rows.lawS4791BScriptRow, List.zip_cons_cons, List.zip_nil_right, List.mem_cons, List.mem_nil_iff, or_false] at hy
    rcases hy with rfl | rfl | rfl | rfl | rfl
    · cases _e
    · cases _e
    · cases _e
    · cases _e
    · exact ⟨pin_laid_unicode_utf8_first, by kernel_rfl⟩) fits1
theorem tie2 : Ybad.prog.laidByTextLater [("io/fs.ErrClosed", Rows.laid_io_fs_ErrClosed)] [.called] true :=
  Program.laidByTextLater.sub seatTie1 ["io/fs.ErrClosed"] (by kernel_rfl) (by kernel_rfl)
theorem lawS4791CStat_row_tie : Rows.lawS4791CStatRow.laidByTextAt .later Ybad.pinned [.called] true :=
  OpenClaim.laidByTextAt_later rfl rfl tie2 noOwnUnsafe
theorem lawS4791CAfterClose_row_tie : Rows.lawS4791CAfterCloseRow.laidByTextAt .later Ybad.pinned [.called] true :=
  OpenClaim.laidByTextAt_later rfl rfl tie2 noOwnUnsafe
end Go.Proofs.YbulkcueuDoor
