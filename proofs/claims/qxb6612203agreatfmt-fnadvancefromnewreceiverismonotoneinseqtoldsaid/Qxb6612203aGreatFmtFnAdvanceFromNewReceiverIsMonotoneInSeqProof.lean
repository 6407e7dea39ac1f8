/-
  The proof of Rows.FnAdvanceFromNewReceiverIsMonotoneInSeqToldSaid: the row's step and the told and tied card. The walk lies in Qxb6612203aGreatFmtLaws. The call never comes to fmt.
-/
import Derived.Test.Qxb6612203aGreatFmtCards
import Derived.Test.Qxb6612203aGreatFmtTie
import Derived.Test.Qxb6612203aGreatFmtLaws
import Derived.ProofKit
import Derived.OpenShut
import Derived.LaidMore
import Derived.OpenVars
import Derived.Stop.JoinedTold
import Derived.Deep.DeepWitnessRef
import Derived.SevenToldRow
import Derived.SevenTiedAt
namespace Go.Proofs.Qxb6612203aGreatFmt.fnAdvanceFromNewReceiverIsMonotoneInSeq
open Go.ChangeShapes Go.WideShapes Go.ChangeAt Go.RowKit
open Go.Extern.Stop Go.Stop Go.Extern

theorem own : ownKnob Tryz.prog.godebug = none := by kernel_rfl
theorem laidOut : laidOutB Tryz.pinned.checked.prog = true := by kernel_rfl
theorem stops : Tryz.pinned.checked.prog.stops = ["fmt.errorf"] := by kernel_rfl
theorem stopKnobs : Tryz.pinned.checked.prog.stopKnobs = [] := by kernel_rfl
theorem quiet (os : Os) : Stop.quiet Tryz.pinned.checked.prog os := by
  intro k hk
  rw [stopKnobs] at hk
  cases hk
theorem rowed : varsRowed Tryz.prog Rows.fnAdvanceFromNewReceiverIsMonotoneInSeqSpec.vars = true := by kernel_rfl

/-- The door's own heap meets the condition on the listed variables. -/
theorem door_met (os : Os) (args : Array Value) : laidMetH Tryz.prog Rows.fnAdvanceFromNewReceiverIsMonotoneInSeqRow.laid ((World.doorLaid Tryz.prog 400 os).forCall (fun _ _ => 0) ⟨#[], args, []⟩).memory :=
  laidMetH_of_parts3 (fuel := 8) (laidMet_of_run' 8 (by kernel_rfl) (by kernel_rfl)) (by kernel_rfl) (by kernel_rfl)

theorem three {H : Type} {enc : TypeId × Value → H} {P : Program} {w : World} {sp : Nat → Bool} {a b c : String} {gs : List (DataW H)} {ps : List MemPlace} (h : DataW.TrodVars enc P w sp [a, b, c] gs ps) : ∃ x y z, gs = [x, y, z] := by
  match gs, h with
  | [x, y, z], _ => exact ⟨x, y, z, rfl⟩
  | [], h => exact h.elim
  | [_], h => obtain ⟨_, _, _, _, _, _, _, _, _, _, h, _⟩ := h; exact h.elim
  | [_, _], h => obtain ⟨_, _, _, _, _, _, _, _, _, _, h, _⟩ := h; obtain ⟨_, _, _, _, _, _, _, _, _, _, h, _⟩ := h; exact h.elim
  | _ :: _ :: _ :: _ :: _, h => obtain ⟨_, _, _, _, _, _, _, _, _, _, h, _⟩ := h; obtain ⟨_, _, _, _, _, _, _, _, _, _, h, _⟩ := h; obtain ⟨_, _, _, _, _, _, _, _, _, _, h, _⟩ := h; exact h.elim

set_option maxRecDepth 100000 in
theorem lifted (os : Os) (started : os.Started) (H : Type) (enc : TypeId × Value → H) :
    ReturnsInTold none {} Tryz.checked os 3 .any Input.okWide ((OpenSpec.ofChange Rows.fnAdvanceFromNewReceiverIsMonotoneInSeqSpec).preRow enc Tryz.prog Tryz.f3 Rows.fnAdvanceFromNewReceiverIsMonotoneInSeqRow.domain false Rows.fnAdvanceFromNewReceiverIsMonotoneInSeqRow.laid)
      (fun F => ((OpenSpec.ofChange Rows.fnAdvanceFromNewReceiverIsMonotoneInSeqSpec).at F).post enc Tryz.prog Tryz.f3 false true false false) (aloneAtReturn Tryz.prog) nothingAlways := by
  refine returnsInTold_of_row (C := Tryz.checked) (s := OpenSpec.ofChange Rows.fnAdvanceFromNewReceiverIsMonotoneInSeqSpec) (by kernel_rfl) own started (by kernel_rfl) Tryz.func3
    (OpenSpec.witness_stopped_atRef (enc := enc) (C := Tryz.checked) false (World.doorLaid Tryz.prog 400 os) #[.int .i64 0, .int .u64 0, .int .u64 0] rfl (by kernel_rfl) (by kernel_rfl) (by kernel_rfl)
      (OpenSpec.preRow_of_B rfl 8 (by kernel_rfl) (by kernel_rfl) (door_met os _))) ?_
  intro F W base args ds gs before _ hF hval0 hW _ _ _ hL _
  have hval : ∀ (j : Nat) t v, Tryz.f3.params[j]? = some t → args[j]? = some v → Value.okWide Tryz.prog W .any base t v := hval0
  have hW' := hW
  obtain ⟨p, q, hA0, hV0, rfl, hfz, hnd⟩ := hW
  have hA : DataW.TrodAll enc Tryz.prog W 0 (fun _ => true) true Tryz.f3.params.toList args.toList ds p := hA0
  have hV : DataW.TrodVars enc Tryz.prog W (fun _ => true) Rows.fnAdvanceFromNewReceiverIsMonotoneInSeqSpec.vars gs q := hV0
  rw [Tryz.params3] at hA hval
  obtain ⟨v0, v1, v2, d0, d1, d2, p0, p1, p2, rfl, rfl, rfl, h0, h1, h2⟩ := trodAll_three hA
  obtain ⟨a0, rfl, rfl, rfl, w0⟩ := open_int Tryz.underlying3 (hval 0 3 v0 rfl rfl) h0
  obtain ⟨a1, rfl, rfl, rfl, w1⟩ := open_int Tryz.underlying22 (hval 1 22 v1 rfl rfl) h1
  obtain ⟨a2, rfl, rfl, rfl, w2⟩ := open_int Tryz.underlying22 (hval 2 22 v2 rfl rfl) h2
  obtain ⟨g1, g2, g3, rfl⟩ := three hV
  clear hA0 hV0 hval0 hL hF
  refine (advance_walk a0 a1 a2 w0 w1 w2 W).mono fun e W' ⟨he, hB⟩ => ?_
  subst he
  have e1 : ((OpenSpec.ofChange Rows.fnAdvanceFromNewReceiverIsMonotoneInSeqSpec).at F.told).fn H ([.lit (.int .i64 a0), .lit (.int .u64 a1), .lit (.int .u64 a2)] ++ [g1, g2, g3]) = { results := [.lit (.bool true)], args := [.lit (.int .i64 a0), .lit (.int .u64 a1), .lit (.int .u64 a2)], vars := [g1, g2, g3] } := rfl
  refine ⟨_, rfl, _, _, _, [], [] ++ [] ++ [], q, hW', ?_, ?_, ?_, hB.frame _, fun h => by cases h⟩
  · rw [e1]; exact trodAll_mk1 (shut_bool Tryz.underlying4 _)
  · rw [e1]; exact trodAll_mk3 (shut_int Tryz.underlying3 w0) (shut_int Tryz.underlying22 w1) (shut_int Tryz.underlying22 w2)
  · rw [e1]; exact hB.trodVars laidOut rowed hV

/-- ████ THE STATEMENT ████ -/
theorem proved : Rows.FnAdvanceFromNewReceiverIsMonotoneInSeqToldSaid :=
  Claim7.holds_of_told_tied_any_at .later 3 Tryz.f3 "fmt.errorf" [] [] _ _ _ _ _ (by kernel_rfl) rfl rfl rfl laidOut (by kernel_rfl) rfl ⟨rfl, rfl, rfl, rfl, rfl, rfl, rfl⟩ rfl rfl (by kernel_rfl) (by kernel_rfl) Tryz.func3 (by kernel_rfl)
    (of_decide_eq_true (by kernel_rfl)) (by unfold Func.isWrapper; first | (rw [if_pos (by decide +kernel)]; kernel_rfl) | (rw [if_neg (by decide +kernel)]; exact ⟨rfl, rfl⟩)) stops.symm rfl stopKnobs.symm (by kernel_rfl)
    (by kernel_rfl) (by kernel_rfl) (by kernel_rfl) (by kernel_rfl) (by kernel_rfl) (by kernel_rfl) (by kernel_rfl) (by kernel_rfl) (by kernel_rfl) rfl (by kernel_rfl) rfl rfl
    rfl rfl
    rfl (by kernel_rfl) (by kernel_rfl) (by kernel_rfl) (by decide) (by kernel_rfl) fnAdvanceFromNewReceiverIsMonotoneInSeq_row_tie
    (OpenClaim.moreEntering_of (by kernel_rfl) (by kernel_rfl) (by kernel_rfl) (by kernel_rfl) (by kernel_rfl) (by kernel_rfl) (by kernel_rfl) (by kernel_rfl) (by kernel_rfl) (by kernel_rfl))
    ⟨_, WideRow.started_initial, quiet _⟩
    (fun os started _ H enc _ => lifted os started H enc)
#print axioms proved
end Go.Proofs.Qxb6612203aGreatFmt.fnAdvanceFromNewReceiverIsMonotoneInSeq
