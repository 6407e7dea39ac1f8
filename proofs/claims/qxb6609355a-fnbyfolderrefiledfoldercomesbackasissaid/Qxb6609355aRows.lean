/-
  No cell of these rows narrows 'for every input' (looked for: loops, veiled, ifaces, maps, wideKeys, modest, calm, conditions, laid).
  DERIVED. THE GIVEN ROWS OF THIS SEAT. 2 by the template 'for every input the law returns true; each argument reads behind the call as it read before'; 0 by the template 'total and deterministic' (their statements: Qxb6609355aTotals.lean).
  GIVEN WITH THE SEED: the statements are not yours to turn. If you find one false, say at which input.
  Laid BY PROGRAM, IN A SANDBOX (cutbox-rows.mjs): the forced cells as the released guide's own fill.sh prints them over the translation d7ccfaa6db5a2675… (all of the seat's roots in one cut). By AI agents, Wed Nov 11 2026. No macro, syntax, notation, axiom, sorry.
-/
import Derived.Test.Qxb6609355aChecked
import GoSem.Claim
import GoSem.ClaimJoined
import GoSem.ClaimMapViews
import Derived.JoinedTies
import Derived.KernelRfl
namespace Go.Proofs.Qxb6609355a
/- THE CELL 'sum', in the pinned program and in every row, IS THE sha256 OF THE DUMP (.gsa) THAT Qxb6609355aProg.lean LOADS. Nothing in Lean hashes anything: it is a label: what it is worth is what the hold of that sum in a sandbox is worth. -/
noncomputable def Try.pinned : Pinned := { name := "qxb6609355a", sum := "d7ccfaa6db5a26753731ecb468bf85efb5f1b63f6781e73d3310014a1a88eaf7", checked := Try.checked }
namespace Rows
def none {H : Type} : Left H := { results := [], args := [] }

/-- 'zzlaws_internal_site_b1.FnByFolderFilesEachPageOnceNewestFirst': WHATEVER THE INPUT: true; the input reads as it did. -/
def fnByFolderFilesEachPageOnceNewestFirstSpec : ChangeSpec := { name := "fnByFolderFilesEachPageOnceNewestFirst", fn := fun _ => fun
  | [d] => { results := [.lit (.bool true)], args := [d] }
  | _ => none }
def fnByFolderFilesEachPageOnceNewestFirstRow : OpenClaim := { program := "qxb6609355a", sum := "d7ccfaa6db5a26753731ecb468bf85efb5f1b63f6781e73d3310014a1a88eaf7", func := "example.com/burrowpress/burrowpress/zzlaws_internal_site_b1.FnByFolderFilesEachPageOnceNewestFirst", spec := "fnByFolderFilesEachPageOnceNewestFirst", inPlace := ["internal/bytealg.abigen_runtime_cmpstring"], unfollowed := true, recurses := true, apart := false }
def FnByFolderFilesEachPageOnceNewestFirstSaid : Prop := fnByFolderFilesEachPageOnceNewestFirstRow.holds Try.pinned (OpenSpec.ofChange fnByFolderFilesEachPageOnceNewestFirstSpec)

/-- ITS FALSE NEIGHBOUR: 'it returns false'. Refute it at one input. -/
def fnByFolderFilesEachPageOnceNewestFirstWrong : ChangeSpec := { name := "fnByFolderFilesEachPageOnceNewestFirst", fn := fun _ => fun
  | [d] => { results := [.lit (.bool false)], args := [d] }
  | _ => none }
def FnByFolderFilesEachPageOnceNewestFirstWrongFalsely : Prop := fnByFolderFilesEachPageOnceNewestFirstRow.holds Try.pinned (OpenSpec.ofChange fnByFolderFilesEachPageOnceNewestFirstWrong)

/-- 'zzlaws_internal_site_b1.FnByFolderRefiledFolderComesBackAsIs': WHATEVER THE INPUT: true; the input reads as it did. -/
def fnByFolderRefiledFolderComesBackAsIsSpec : ChangeSpec := { name := "fnByFolderRefiledFolderComesBackAsIs", fn := fun _ => fun
  | [d] => { results := [.lit (.bool true)], args := [d] }
  | _ => none }
def fnByFolderRefiledFolderComesBackAsIsRow : OpenClaim := { program := "qxb6609355a", sum := "d7ccfaa6db5a26753731ecb468bf85efb5f1b63f6781e73d3310014a1a88eaf7", func := "example.com/burrowpress/burrowpress/zzlaws_internal_site_b1.FnByFolderRefiledFolderComesBackAsIs", spec := "fnByFolderRefiledFolderComesBackAsIs", inPlace := ["internal/bytealg.abigen_runtime_cmpstring"], unfollowed := true, recurses := true, apart := false }
def FnByFolderRefiledFolderComesBackAsIsSaid : Prop := fnByFolderRefiledFolderComesBackAsIsRow.holds Try.pinned (OpenSpec.ofChange fnByFolderRefiledFolderComesBackAsIsSpec)

/-- ITS FALSE NEIGHBOUR: 'it returns false'. Refute it at one input. -/
def fnByFolderRefiledFolderComesBackAsIsWrong : ChangeSpec := { name := "fnByFolderRefiledFolderComesBackAsIs", fn := fun _ => fun
  | [d] => { results := [.lit (.bool false)], args := [d] }
  | _ => none }
def FnByFolderRefiledFolderComesBackAsIsWrongFalsely : Prop := fnByFolderRefiledFolderComesBackAsIsRow.holds Try.pinned (OpenSpec.ofChange fnByFolderRefiledFolderComesBackAsIsWrong)

end Rows
end Go.Proofs.Qxb6609355a
