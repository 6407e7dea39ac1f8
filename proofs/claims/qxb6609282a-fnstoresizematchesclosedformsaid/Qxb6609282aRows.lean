/-
  No cell of these rows narrows 'for every input' (looked for: loops, veiled, ifaces, maps, wideKeys, modest, calm, conditions, laid).
  DERIVED. THE GIVEN ROWS OF THIS SEAT. 2 by the template 'for every input the law returns true; each argument reads behind the call as it read before'; 0 by the template 'total and deterministic' (their statements: Qxb6609282aTotals.lean).
  GIVEN WITH THE SEED: the statements are not yours to turn. If you find one false, say at which input.
  Laid BY PROGRAM, IN A SANDBOX (cutbox-rows.mjs): the forced cells as the released guide's own fill.sh prints them over the translation f05ce4b0900b512e… (all of the seat's roots in one cut). By AI agents, Wed Nov 11 2026. No macro, syntax, notation, axiom, sorry.
-/
import Derived.Test.Qxb6609282aChecked
import GoSem.Claim
import GoSem.ClaimJoined
import GoSem.ClaimMapViews
import Derived.JoinedTies
import Derived.KernelRfl
namespace Go.Proofs.Qxb6609282a
/- THE CELL 'sum', in the pinned program and in every row, IS THE sha256 OF THE DUMP (.gsa) THAT Qxb6609282aProg.lean LOADS. Nothing in Lean hashes anything: it is a label: what it is worth is what the hold of that sum in a sandbox is worth. -/
noncomputable def Try.pinned : Pinned := { name := "qxb6609282a", sum := "f05ce4b0900b512edcf691556194cea597085a31d9f44261c1561b83da101fd4", checked := Try.checked }
namespace Rows
def none {H : Type} : Left H := { results := [], args := [] }

/-- 'zzlaws_root_b1.FnStoreSizeMatchesClosedForm': WHATEVER THE INPUT: true; the input reads as it did. -/
def fnStoreSizeMatchesClosedFormSpec : ChangeSpec := { name := "fnStoreSizeMatchesClosedForm", fn := fun _ => fun
  | [d1, d2] => { results := [.lit (.bool true)], args := [d1, d2] }
  | _ => none }
def fnStoreSizeMatchesClosedFormRow : OpenClaim := { program := "qxb6609282a", sum := "f05ce4b0900b512edcf691556194cea597085a31d9f44261c1561b83da101fd4", func := "example.com/skipstone/skipstone/zzlaws_root_b1.FnStoreSizeMatchesClosedForm", spec := "fnStoreSizeMatchesClosedForm", apart := false }
def FnStoreSizeMatchesClosedFormSaid : Prop := fnStoreSizeMatchesClosedFormRow.holds Try.pinned (OpenSpec.ofChange fnStoreSizeMatchesClosedFormSpec)

/-- ITS FALSE NEIGHBOUR: 'it returns false'. Refute it at one input. -/
def fnStoreSizeMatchesClosedFormWrong : ChangeSpec := { name := "fnStoreSizeMatchesClosedForm", fn := fun _ => fun
  | [d1, d2] => { results := [.lit (.bool false)], args := [d1, d2] }
  | _ => none }
def FnStoreSizeMatchesClosedFormWrongFalsely : Prop := fnStoreSizeMatchesClosedFormRow.holds Try.pinned (OpenSpec.ofChange fnStoreSizeMatchesClosedFormWrong)

/-- 'zzlaws_root_b1.FnStoreSizeIndexDoublesAtThreeQuarters': WHATEVER THE INPUT: true; the input reads as it did. -/
def fnStoreSizeIndexDoublesAtThreeQuartersSpec : ChangeSpec := { name := "fnStoreSizeIndexDoublesAtThreeQuarters", fn := fun _ => fun
  | [d1, d2] => { results := [.lit (.bool true)], args := [d1, d2] }
  | _ => none }
def fnStoreSizeIndexDoublesAtThreeQuartersRow : OpenClaim := { program := "qxb6609282a", sum := "f05ce4b0900b512edcf691556194cea597085a31d9f44261c1561b83da101fd4", func := "example.com/skipstone/skipstone/zzlaws_root_b1.FnStoreSizeIndexDoublesAtThreeQuarters", spec := "fnStoreSizeIndexDoublesAtThreeQuarters", apart := false }
def FnStoreSizeIndexDoublesAtThreeQuartersSaid : Prop := fnStoreSizeIndexDoublesAtThreeQuartersRow.holds Try.pinned (OpenSpec.ofChange fnStoreSizeIndexDoublesAtThreeQuartersSpec)

/-- ITS FALSE NEIGHBOUR: 'it returns false'. Refute it at one input. -/
def fnStoreSizeIndexDoublesAtThreeQuartersWrong : ChangeSpec := { name := "fnStoreSizeIndexDoublesAtThreeQuarters", fn := fun _ => fun
  | [d1, d2] => { results := [.lit (.bool false)], args := [d1, d2] }
  | _ => none }
def FnStoreSizeIndexDoublesAtThreeQuartersWrongFalsely : Prop := fnStoreSizeIndexDoublesAtThreeQuartersRow.holds Try.pinned (OpenSpec.ofChange fnStoreSizeIndexDoublesAtThreeQuartersWrong)

end Rows
end Go.Proofs.Qxb6609282a
