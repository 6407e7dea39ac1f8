/-
  DERIVED. GIVEN WITH THE SEED: THE CARDS: each row of Qxb6612203aGreatFmtRows.lean that lists a variable, with what it lists TIED to the program's text (the seventh form; the later family's looks); each row that meets fmt, with fmt's text TOLD by the authors' own Lean function (tested against real Go, not proved from fmt's source: count such statements apart). THE CARD IS WHAT COUNTS. Prove the row's statement (the work); the ties are given (Qxb6612203aGreatFmtTie.lean); close each card by the builder's one call (the guide's Derived/Test/ToyasCard.lean, 'card_holds'). Laid BY PROGRAM, IN A SANDBOX (cutbox-door.mjs). By AI agents, Wed Nov 11 2026. No macro, syntax, notation, axiom, sorry.
-/
import Derived.Test.Qxb6612203aGreatFmtRows
import GoSem.ClaimSeven
namespace Go.Proofs.Qxb6612203aGreatFmt
namespace Rows

/-- THE TOLD AND TIED CARD OF 'zzlaws_tfs_b1.FnAdvanceFromNewReceiverIsMonotoneInSeq'. -/
def fnAdvanceFromNewReceiverIsMonotoneInSeqCard : Claim7 := { stood := { row := fnAdvanceFromNewReceiverIsMonotoneInSeqRow, standIns := [], harness := (true, "dc2d64b26c141af2087d1b2b39803441f64844a57de0f0e7a6221489469f2b11"), looks := true }, told := true, laidByText := true, laidKinds := [.sentinel, .sentinel, .wider], laidTests := true, laidLooks := .later, goes := false }
def FnAdvanceFromNewReceiverIsMonotoneInSeqToldSaid : Prop := Claim7.holds Tryz.pinned (.plain (OpenSpec.ofChange fnAdvanceFromNewReceiverIsMonotoneInSeqSpec)) fnAdvanceFromNewReceiverIsMonotoneInSeqCard
/-- ITS FALSE NEIGHBOUR. Refute it at one input. -/
def FnAdvanceFromNewReceiverIsMonotoneInSeqToldWrongFalsely : Prop := Claim7.holds Tryz.pinned (.plain (OpenSpec.ofChange fnAdvanceFromNewReceiverIsMonotoneInSeqWrong)) fnAdvanceFromNewReceiverIsMonotoneInSeqCard

/-- THE TOLD AND TIED CARD OF 'zzlaws_tfs_b1.FnGiveUpTwiceIsGiveUpToTheLarger'. -/
def fnGiveUpTwiceIsGiveUpToTheLargerCard : Claim7 := { stood := { row := fnGiveUpTwiceIsGiveUpToTheLargerRow, standIns := [], harness := (true, "dc2d64b26c141af2087d1b2b39803441f64844a57de0f0e7a6221489469f2b11"), looks := true }, told := true, laidByText := true, laidKinds := [.sentinel, .sentinel, .wider], laidTests := true, laidLooks := .later, goes := false }
def FnGiveUpTwiceIsGiveUpToTheLargerToldSaid : Prop := Claim7.holds Tryz.pinned (.plain (OpenSpec.ofChange fnGiveUpTwiceIsGiveUpToTheLargerSpec)) fnGiveUpTwiceIsGiveUpToTheLargerCard
/-- ITS FALSE NEIGHBOUR. Refute it at one input. -/
def FnGiveUpTwiceIsGiveUpToTheLargerToldWrongFalsely : Prop := Claim7.holds Tryz.pinned (.plain (OpenSpec.ofChange fnGiveUpTwiceIsGiveUpToTheLargerWrong)) fnGiveUpTwiceIsGiveUpToTheLargerCard
end Rows
end Go.Proofs.Qxb6612203aGreatFmt
