/-
  No cell of these rows narrows 'for every input' (looked for: loops, veiled, ifaces, maps, wideKeys, modest, calm, conditions, laid).
  DERIVED. THE GIVEN ROWS OF THIS SEAT. 4 by the template 'for every input the law returns true; each argument reads behind the call as it read before'; 0 by the template 'total and deterministic' (their statements: Qxb6613363aTotals.lean).
  GIVEN WITH THE SEED: the statements are not yours to turn. If you find one false, say at which input.
  Laid BY PROGRAM, IN A SANDBOX (cutbox-rows.mjs): the forced cells as the released guide's own fill.sh prints them over the translation 4ee0aac321e10934… (all of the seat's roots in one cut). By AI agents, Wed Nov 11 2026. No macro, syntax, notation, axiom, sorry.
-/
import Derived.Test.Qxb6613363aChecked
import GoSem.Claim
import GoSem.ClaimJoined
import GoSem.ClaimMapViews
import Derived.JoinedTies
import Derived.KernelRfl
namespace Go.Proofs.Qxb6613363a
/- THE CELL 'sum', in the pinned program and in every row, IS THE sha256 OF THE DUMP (.gsa) THAT Qxb6613363aProg.lean LOADS. Nothing in Lean hashes anything: it is a label: what it is worth is what the hold of that sum in a sandbox is worth. -/
noncomputable def Try.pinned : Pinned := { name := "qxb6613363a", sum := "4ee0aac321e10934233f7881e25eff5b6e93d8f64dd3e214432c725d1039d809", checked := Try.checked }
namespace Rows
def none {H : Type} : Left H := { results := [], args := [] }

/-- 'zzlaws_protocol_b1.FnCausalBarrierApplyExact': WHATEVER THE INPUT: true; the input reads as it did. -/
def fnCausalBarrierApplyExactSpec : ChangeSpec := { name := "fnCausalBarrierApplyExact", fn := fun _ => fun
  | [d1, d2, d3, d4, d5, d6, d7, d8, d9, d10, d11, d12] => { results := [.lit (.bool true)], args := [d1, d2, d3, d4, d5, d6, d7, d8, d9, d10, d11, d12] }
  | _ => none }
def fnCausalBarrierApplyExactRow : OpenClaim := { program := "qxb6613363a", sum := "4ee0aac321e10934233f7881e25eff5b6e93d8f64dd3e214432c725d1039d809", func := "example.com/antecedent/antecedent/zzlaws_protocol_b1.FnCausalBarrierApplyExact", spec := "fnCausalBarrierApplyExact", unfollowed := true, recurses := true, apart := false }
def FnCausalBarrierApplyExactSaid : Prop := fnCausalBarrierApplyExactRow.holds Try.pinned (OpenSpec.ofChange fnCausalBarrierApplyExactSpec)

/-- ITS FALSE NEIGHBOUR: 'it returns false'. Refute it at one input. -/
def fnCausalBarrierApplyExactWrong : ChangeSpec := { name := "fnCausalBarrierApplyExact", fn := fun _ => fun
  | [d1, d2, d3, d4, d5, d6, d7, d8, d9, d10, d11, d12] => { results := [.lit (.bool false)], args := [d1, d2, d3, d4, d5, d6, d7, d8, d9, d10, d11, d12] }
  | _ => none }
def FnCausalBarrierApplyExactWrongFalsely : Prop := fnCausalBarrierApplyExactRow.holds Try.pinned (OpenSpec.ofChange fnCausalBarrierApplyExactWrong)

/-- 'zzlaws_protocol_b1.FnCausalBarrierApplyKnowledgeCommutes': WHATEVER THE INPUT: true; the input reads as it did. -/
def fnCausalBarrierApplyKnowledgeCommutesSpec : ChangeSpec := { name := "fnCausalBarrierApplyKnowledgeCommutes", fn := fun _ => fun
  | [d1, d2, d3, d4, d5, d6, d7, d8, d9, d10, d11, d12] => { results := [.lit (.bool true)], args := [d1, d2, d3, d4, d5, d6, d7, d8, d9, d10, d11, d12] }
  | _ => none }
def fnCausalBarrierApplyKnowledgeCommutesRow : OpenClaim := { program := "qxb6613363a", sum := "4ee0aac321e10934233f7881e25eff5b6e93d8f64dd3e214432c725d1039d809", func := "example.com/antecedent/antecedent/zzlaws_protocol_b1.FnCausalBarrierApplyKnowledgeCommutes", spec := "fnCausalBarrierApplyKnowledgeCommutes", unfollowed := true, recurses := true, apart := false }
def FnCausalBarrierApplyKnowledgeCommutesSaid : Prop := fnCausalBarrierApplyKnowledgeCommutesRow.holds Try.pinned (OpenSpec.ofChange fnCausalBarrierApplyKnowledgeCommutesSpec)

/-- ITS FALSE NEIGHBOUR: 'it returns false'. Refute it at one input. -/
def fnCausalBarrierApplyKnowledgeCommutesWrong : ChangeSpec := { name := "fnCausalBarrierApplyKnowledgeCommutes", fn := fun _ => fun
  | [d1, d2, d3, d4, d5, d6, d7, d8, d9, d10, d11, d12] => { results := [.lit (.bool false)], args := [d1, d2, d3, d4, d5, d6, d7, d8, d9, d10, d11, d12] }
  | _ => none }
def FnCausalBarrierApplyKnowledgeCommutesWrongFalsely : Prop := fnCausalBarrierApplyKnowledgeCommutesRow.holds Try.pinned (OpenSpec.ofChange fnCausalBarrierApplyKnowledgeCommutesWrong)

/-- 'zzlaws_protocol_b1.FnEntryLapsedLeastFloorIsCredits': WHATEVER THE INPUT: true; the input reads as it did. -/
def fnEntryLapsedLeastFloorIsCreditsSpec : ChangeSpec := { name := "fnEntryLapsedLeastFloorIsCredits", fn := fun _ => fun
  | [d1, d2, d3, d4, d5] => { results := [.lit (.bool true)], args := [d1, d2, d3, d4, d5] }
  | _ => none }
def fnEntryLapsedLeastFloorIsCreditsRow : OpenClaim := { program := "qxb6613363a", sum := "4ee0aac321e10934233f7881e25eff5b6e93d8f64dd3e214432c725d1039d809", func := "example.com/antecedent/antecedent/zzlaws_protocol_b1.FnEntryLapsedLeastFloorIsCredits", spec := "fnEntryLapsedLeastFloorIsCredits", apart := false }
def FnEntryLapsedLeastFloorIsCreditsSaid : Prop := fnEntryLapsedLeastFloorIsCreditsRow.holds Try.pinned (OpenSpec.ofChange fnEntryLapsedLeastFloorIsCreditsSpec)

/-- ITS FALSE NEIGHBOUR: 'it returns false'. Refute it at one input. -/
def fnEntryLapsedLeastFloorIsCreditsWrong : ChangeSpec := { name := "fnEntryLapsedLeastFloorIsCredits", fn := fun _ => fun
  | [d1, d2, d3, d4, d5] => { results := [.lit (.bool false)], args := [d1, d2, d3, d4, d5] }
  | _ => none }
def FnEntryLapsedLeastFloorIsCreditsWrongFalsely : Prop := fnEntryLapsedLeastFloorIsCreditsRow.holds Try.pinned (OpenSpec.ofChange fnEntryLapsedLeastFloorIsCreditsWrong)

/-- 'zzlaws_protocol_b1.FnEntryLapsedShiftAndCut': WHATEVER THE INPUT: true; the input reads as it did. -/
def fnEntryLapsedShiftAndCutSpec : ChangeSpec := { name := "fnEntryLapsedShiftAndCut", fn := fun _ => fun
  | [d1, d2, d3, d4, d5, d6] => { results := [.lit (.bool true)], args := [d1, d2, d3, d4, d5, d6] }
  | _ => none }
def fnEntryLapsedShiftAndCutRow : OpenClaim := { program := "qxb6613363a", sum := "4ee0aac321e10934233f7881e25eff5b6e93d8f64dd3e214432c725d1039d809", func := "example.com/antecedent/antecedent/zzlaws_protocol_b1.FnEntryLapsedShiftAndCut", spec := "fnEntryLapsedShiftAndCut", apart := false }
def FnEntryLapsedShiftAndCutSaid : Prop := fnEntryLapsedShiftAndCutRow.holds Try.pinned (OpenSpec.ofChange fnEntryLapsedShiftAndCutSpec)

/-- ITS FALSE NEIGHBOUR: 'it returns false'. Refute it at one input. -/
def fnEntryLapsedShiftAndCutWrong : ChangeSpec := { name := "fnEntryLapsedShiftAndCut", fn := fun _ => fun
  | [d1, d2, d3, d4, d5, d6] => { results := [.lit (.bool false)], args := [d1, d2, d3, d4, d5, d6] }
  | _ => none }
def FnEntryLapsedShiftAndCutWrongFalsely : Prop := fnEntryLapsedShiftAndCutRow.holds Try.pinned (OpenSpec.ofChange fnEntryLapsedShiftAndCutWrong)

end Rows
end Go.Proofs.Qxb6613363a
