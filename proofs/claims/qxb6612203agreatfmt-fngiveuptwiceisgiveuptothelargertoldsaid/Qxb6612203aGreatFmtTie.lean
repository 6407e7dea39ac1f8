/-
  DERIVED. GIVEN WITH THE SEED: THE PROGRAM's TIES (one call each: nine closed facts by the kernel) AND EACH ROW's TIE, after the 31st guide's Derived/Test/Toyas{Tie, Card}.lean. No idea stands in it: it is a product of the set-up. Laid BY PROGRAM, IN A SANDBOX (cutbox-door.mjs). By AI agents, Wed Nov 11 2026. No macro, syntax, notation, axiom, sorry.
-/
import Derived.Test.Qxb6612203aGreatFmtRows
import Derived.LaidByTextLater
import Derived.SevenTiedAt
import Derived.LaidSub
import Derived.LaidOnce
namespace Go.Proofs.Qxb6612203aGreatFmt
open Go
set_option maxRecDepth 100000
theorem seatTie1 : Tryz.prog.laidByTextLater [("example.com/pacewire/pacewire/iphdr.ErrTruncated", Rows.laid_example_com_pacewire_pacewire_iphdr_ErrTruncated), ("example.com/pacewire/pacewire/iphdr.ErrMalformed", Rows.laid_example_com_pacewire_pacewire_iphdr_ErrMalformed), ("example.com/pacewire/pacewire/aggfrag.headerLens", Rows.laid_example_com_pacewire_pacewire_aggfrag_headerLens)] [.sentinel, .sentinel, .wider] true :=
  Program.laidByTextLater_by_one 52 8 3 (by kernel_rfl) (by kernel_rfl) (by kernel_rfl) (by kernel_rfl) (by kernel_rfl) (by kernel_rfl) (fun _ _ => by kernel_rfl)
theorem noOwnUnsafe : Tryz.pinned.checked.prog.headLifts.contains "ownunsafe" = false := by kernel_rfl
theorem tie : Tryz.prog.laidByTextLater [("example.com/pacewire/pacewire/iphdr.ErrTruncated", Rows.laid_example_com_pacewire_pacewire_iphdr_ErrTruncated), ("example.com/pacewire/pacewire/iphdr.ErrMalformed", Rows.laid_example_com_pacewire_pacewire_iphdr_ErrMalformed), ("example.com/pacewire/pacewire/aggfrag.headerLens", Rows.laid_example_com_pacewire_pacewire_aggfrag_headerLens)] [.sentinel, .sentinel, .wider] true :=
  Program.laidByTextLater.sub seatTie1 ["example.com/pacewire/pacewire/iphdr.ErrTruncated", "example.com/pacewire/pacewire/iphdr.ErrMalformed", "example.com/pacewire/pacewire/aggfrag.headerLens"] (by kernel_rfl) (by kernel_rfl)
theorem fnAdvanceFromNewReceiverIsMonotoneInSeq_row_tie : Rows.fnAdvanceFromNewReceiverIsMonotoneInSeqRow.laidByTextAt .later Tryz.pinned [.sentinel, .sentinel, .wider] true :=
  OpenClaim.laidByTextAt_later rfl rfl tie noOwnUnsafe
theorem fnGiveUpTwiceIsGiveUpToTheLarger_row_tie : Rows.fnGiveUpTwiceIsGiveUpToTheLargerRow.laidByTextAt .later Tryz.pinned [.sentinel, .sentinel, .wider] true :=
  OpenClaim.laidByTextAt_later rfl rfl tie noOwnUnsafe
end Go.Proofs.Qxb6612203aGreatFmt
