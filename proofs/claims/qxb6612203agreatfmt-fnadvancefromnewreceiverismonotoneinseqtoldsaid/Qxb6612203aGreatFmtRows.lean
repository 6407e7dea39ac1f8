/-
  NARROWER THAN 'FOR EVERY INPUT', by the rows' own cells (each row's printed sentence says how): FnAdvanceFromNewReceiverIsMonotoneInSeq: ifaces, laid · FnGiveUpTwiceIsGiveUpToTheLarger: ifaces, laid.
  DERIVED. THE GIVEN ROWS OF THIS SEAT. 2 by the template 'for every input the law returns true; each argument reads behind the call as it read before'; 0 by the template 'total and deterministic' (their statements: Qxb6612203aGreatFmtTotals.lean).
  GIVEN WITH THE SEED: the statements are not yours to turn. If you find one false, say at which input.
  Laid BY PROGRAM, IN A SANDBOX (cutbox-rows.mjs): the forced cells as the released guide's own fill.sh prints them over the translation 880bd341ab67fb18… (all of the seat's roots in one cut). By AI agents, Wed Nov 11 2026. No macro, syntax, notation, axiom, sorry.
-/
import Derived.Test.Qxb6612203aGreatFmtChecked
import GoSem.Claim
import GoSem.ClaimJoined
import GoSem.ClaimMapViews
import Derived.JoinedTies
import Derived.KernelRfl
namespace Go.Proofs.Qxb6612203aGreatFmt
/- THE CELL 'sum', in the pinned program and in every row, IS THE sha256 OF THE DUMP (.gsa) THAT Qxb6612203aGreatFmtProg.lean LOADS. Nothing in Lean hashes anything: it is a label: what it is worth is what the hold of that sum in a sandbox is worth. -/
noncomputable def Tryz.pinned : Pinned := { name := "qxb6612203agreatfmt", sum := "880bd341ab67fb1867f60a0fab32c7330b0c6cccf771ada3f16153898e35878a", checked := Tryz.checked }
namespace Rows
def none {H : Type} : Left H := { results := [], args := [] }

/- WHAT THE LISTED PACKAGE-LEVEL VARIABLES READ AS WHEN THE CALL BEGINS. Each datum BY PROGRAM (the guide's laid-datum.mjs) off the statement by which the dump's own 'gosem.cut.vars' lays the variable. In a bare row this is a premise. The card (Qxb6612203aGreatFmtCards.lean) ties it to the program's text. -/
def laid_example_com_pacewire_pacewire_iphdr_ErrTruncated {H : Type} : DataW H := .iface "*errors.errorString" (.ptr (.agg [.lit (.string [116, 111, 111, 32, 115, 104, 111, 114, 116, 32, 102, 111, 114, 32, 105, 116, 115, 32, 104, 101, 97, 100, 101, 114])]))
def laid_example_com_pacewire_pacewire_iphdr_ErrMalformed {H : Type} : DataW H := .iface "*errors.errorString" (.ptr (.agg [.lit (.string [110, 111, 116, 32, 97, 32, 119, 101, 108, 108, 45, 102, 111, 114, 109, 101, 100, 32, 104, 101, 97, 100, 101, 114])]))
def laid_example_com_pacewire_pacewire_aggfrag_headerLens {H : Type} : DataW H := .agg [.lit (.int .i64 4), .lit (.int .i64 24)]

/-- 'zzlaws_tfs_b1.FnAdvanceFromNewReceiverIsMonotoneInSeq': WHATEVER THE INPUT: true; the input reads as it did. -/
def fnAdvanceFromNewReceiverIsMonotoneInSeqSpec : ChangeSpec := { name := "fnAdvanceFromNewReceiverIsMonotoneInSeq", vars := ["example.com/pacewire/pacewire/aggfrag.headerLens", "example.com/pacewire/pacewire/iphdr.ErrTruncated", "example.com/pacewire/pacewire/iphdr.ErrMalformed"], fn := fun _ => fun
  | [d1, d2, d3, g1, g2, g3] => { results := [.lit (.bool true)], args := [d1, d2, d3], vars := [g1, g2, g3] }
  | _ => none }
def fnAdvanceFromNewReceiverIsMonotoneInSeqRow : OpenClaim := { program := "qxb6612203agreatfmt", sum := "880bd341ab67fb1867f60a0fab32c7330b0c6cccf771ada3f16153898e35878a", func := "example.com/pacewire/pacewire/zzlaws_tfs_b1.FnAdvanceFromNewReceiverIsMonotoneInSeq", spec := "fnAdvanceFromNewReceiverIsMonotoneInSeq", stops := ["fmt.errorf"], inPlace := ["fmt.errorf", "internal/reflectlite.TypeOf", "(*internal/sync.Mutex).Lock", "internal/race.Disable", "sync/atomic.CompareAndSwapInt32", "internal/race.Enable", "internal/race.Acquire", "(*internal/sync.Mutex).lockSlow", "internal/sync.runtime_canSpin", "internal/sync.runtime_doSpin", "internal/sync.throw", "internal/sync.runtime_nanotime", "internal/sync.runtime_SemacquireMutex", "sync/atomic.AddInt32", "(*internal/sync.Mutex).Unlock", "internal/race.ReleaseMerge", "(*internal/sync.Mutex).unlockSlow", "internal/sync.fatal", "internal/sync.runtime_Semrelease", "math.sqrt", "math/bits.Add64"], unfollowed := true, recurses := true, named := ["encoding/binary.BigEndian", "example.com/pacewire/pacewire/aggfrag.headerLens", "example.com/pacewire/pacewire/iphdr.ErrTruncated", "example.com/pacewire/pacewire/iphdr.ErrMalformed", "math/bits.divideError", "math/bits.overflowError"], ifaces := true, apart := false, laid := [("example.com/pacewire/pacewire/iphdr.ErrTruncated", laid_example_com_pacewire_pacewire_iphdr_ErrTruncated), ("example.com/pacewire/pacewire/iphdr.ErrMalformed", laid_example_com_pacewire_pacewire_iphdr_ErrMalformed), ("example.com/pacewire/pacewire/aggfrag.headerLens", laid_example_com_pacewire_pacewire_aggfrag_headerLens)] }
/-- NO THEOREM (fmt's text is open here; it may be false): for the released tool's asking of the row's closed facts alone. THE STATEMENT IS 'FnAdvanceFromNewReceiverIsMonotoneInSeqToldSaid' (Qxb6612203aGreatFmtCards.lean). -/
def FnAdvanceFromNewReceiverIsMonotoneInSeqFormAsk : Prop := fnAdvanceFromNewReceiverIsMonotoneInSeqRow.holds Tryz.pinned (OpenSpec.ofChange fnAdvanceFromNewReceiverIsMonotoneInSeqSpec)

/-- ITS FALSE NEIGHBOUR: 'it returns false'. Refute it at one input. -/
def fnAdvanceFromNewReceiverIsMonotoneInSeqWrong : ChangeSpec := { name := "fnAdvanceFromNewReceiverIsMonotoneInSeq", vars := ["example.com/pacewire/pacewire/aggfrag.headerLens", "example.com/pacewire/pacewire/iphdr.ErrTruncated", "example.com/pacewire/pacewire/iphdr.ErrMalformed"], fn := fun _ => fun
  | [d1, d2, d3, g1, g2, g3] => { results := [.lit (.bool false)], args := [d1, d2, d3], vars := [g1, g2, g3] }
  | _ => none }
def FnAdvanceFromNewReceiverIsMonotoneInSeqWrongFormAsk : Prop := fnAdvanceFromNewReceiverIsMonotoneInSeqRow.holds Tryz.pinned (OpenSpec.ofChange fnAdvanceFromNewReceiverIsMonotoneInSeqWrong)

/-- 'zzlaws_tfs_b1.FnGiveUpTwiceIsGiveUpToTheLarger': WHATEVER THE INPUT: true; the input reads as it did. -/
def fnGiveUpTwiceIsGiveUpToTheLargerSpec : ChangeSpec := { name := "fnGiveUpTwiceIsGiveUpToTheLarger", vars := ["example.com/pacewire/pacewire/aggfrag.headerLens", "example.com/pacewire/pacewire/iphdr.ErrTruncated", "example.com/pacewire/pacewire/iphdr.ErrMalformed"], fn := fun _ => fun
  | [d1, d2, d3, g1, g2, g3] => { results := [.lit (.bool true)], args := [d1, d2, d3], vars := [g1, g2, g3] }
  | _ => none }
def fnGiveUpTwiceIsGiveUpToTheLargerRow : OpenClaim := { program := "qxb6612203agreatfmt", sum := "880bd341ab67fb1867f60a0fab32c7330b0c6cccf771ada3f16153898e35878a", func := "example.com/pacewire/pacewire/zzlaws_tfs_b1.FnGiveUpTwiceIsGiveUpToTheLarger", spec := "fnGiveUpTwiceIsGiveUpToTheLarger", stops := ["fmt.errorf"], inPlace := ["fmt.errorf", "internal/reflectlite.TypeOf", "(*internal/sync.Mutex).Lock", "internal/race.Disable", "sync/atomic.CompareAndSwapInt32", "internal/race.Enable", "internal/race.Acquire", "(*internal/sync.Mutex).lockSlow", "internal/sync.runtime_canSpin", "internal/sync.runtime_doSpin", "internal/sync.throw", "internal/sync.runtime_nanotime", "internal/sync.runtime_SemacquireMutex", "sync/atomic.AddInt32", "(*internal/sync.Mutex).Unlock", "internal/race.ReleaseMerge", "(*internal/sync.Mutex).unlockSlow", "internal/sync.fatal", "internal/sync.runtime_Semrelease", "math.sqrt", "math/bits.Add64"], unfollowed := true, recurses := true, named := ["encoding/binary.BigEndian", "example.com/pacewire/pacewire/aggfrag.headerLens", "example.com/pacewire/pacewire/iphdr.ErrTruncated", "example.com/pacewire/pacewire/iphdr.ErrMalformed", "math/bits.divideError", "math/bits.overflowError"], ifaces := true, apart := false, laid := [("example.com/pacewire/pacewire/iphdr.ErrTruncated", laid_example_com_pacewire_pacewire_iphdr_ErrTruncated), ("example.com/pacewire/pacewire/iphdr.ErrMalformed", laid_example_com_pacewire_pacewire_iphdr_ErrMalformed), ("example.com/pacewire/pacewire/aggfrag.headerLens", laid_example_com_pacewire_pacewire_aggfrag_headerLens)] }
/-- NO THEOREM (fmt's text is open here; it may be false): for the released tool's asking of the row's closed facts alone. THE STATEMENT IS 'FnGiveUpTwiceIsGiveUpToTheLargerToldSaid' (Qxb6612203aGreatFmtCards.lean). -/
def FnGiveUpTwiceIsGiveUpToTheLargerFormAsk : Prop := fnGiveUpTwiceIsGiveUpToTheLargerRow.holds Tryz.pinned (OpenSpec.ofChange fnGiveUpTwiceIsGiveUpToTheLargerSpec)

/-- ITS FALSE NEIGHBOUR: 'it returns false'. Refute it at one input. -/
def fnGiveUpTwiceIsGiveUpToTheLargerWrong : ChangeSpec := { name := "fnGiveUpTwiceIsGiveUpToTheLarger", vars := ["example.com/pacewire/pacewire/aggfrag.headerLens", "example.com/pacewire/pacewire/iphdr.ErrTruncated", "example.com/pacewire/pacewire/iphdr.ErrMalformed"], fn := fun _ => fun
  | [d1, d2, d3, g1, g2, g3] => { results := [.lit (.bool false)], args := [d1, d2, d3], vars := [g1, g2, g3] }
  | _ => none }
def FnGiveUpTwiceIsGiveUpToTheLargerWrongFormAsk : Prop := fnGiveUpTwiceIsGiveUpToTheLargerRow.holds Tryz.pinned (OpenSpec.ofChange fnGiveUpTwiceIsGiveUpToTheLargerWrong)

end Rows
end Go.Proofs.Qxb6612203aGreatFmt
