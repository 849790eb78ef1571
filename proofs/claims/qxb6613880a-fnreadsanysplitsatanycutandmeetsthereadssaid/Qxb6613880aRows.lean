/-
  No cell of these rows narrows 'for every input' (looked for: loops, veiled, ifaces, maps, wideKeys, modest, calm, conditions, laid).
  DERIVED. THE GIVEN ROWS OF THIS SEAT. 2 by the template 'for every input the law returns true; each argument reads behind the call as it read before'; 0 by the template 'total and deterministic' (their statements: Qxb6613880aTotals.lean).
  GIVEN WITH THE SEED: the statements are not yours to turn. If you find one false, say at which input.
  Laid BY PROGRAM, IN A SANDBOX (cutbox-rows.mjs): the forced cells as the released guide's own fill.sh prints them over the translation fc183d96097eb84a… (all of the seat's roots in one cut). By AI agents, Wed Nov 11 2026. No macro, syntax, notation, axiom, sorry.
-/
import Derived.Test.Qxb6613880aChecked
import GoSem.Claim
import GoSem.ClaimJoined
import GoSem.ClaimMapViews
import Derived.JoinedTies
import Derived.KernelRfl
namespace Go.Proofs.Qxb6613880a
/- THE CELL 'sum', in the pinned program and in every row, IS THE sha256 OF THE DUMP (.gsa) THAT Qxb6613880aProg.lean LOADS. Nothing in Lean hashes anything: it is a label: what it is worth is what the hold of that sum in a sandbox is worth. -/
noncomputable def Try.pinned : Pinned := { name := "qxb6613880a", sum := "fc183d96097eb84a7d26b7979f3e9f002fcdd2933914d0426b3b2292870be88b", checked := Try.checked }
namespace Rows
def none {H : Type} : Left H := { results := [], args := [] }

/-- 'zzlaws_internal_pagetx_b1.FnReadsAnySplitsAtAnyCutAndMeetsTheReads': WHATEVER THE INPUT: true; the input reads as it did. -/
def fnReadsAnySplitsAtAnyCutAndMeetsTheReadsSpec : ChangeSpec := { name := "fnReadsAnySplitsAtAnyCutAndMeetsTheReads", fn := fun _ => fun
  | [d1, d2, d3] => { results := [.lit (.bool true)], args := [d1, d2, d3] }
  | _ => none }
def fnReadsAnySplitsAtAnyCutAndMeetsTheReadsRow : OpenClaim := { program := "qxb6613880a", sum := "fc183d96097eb84a7d26b7979f3e9f002fcdd2933914d0426b3b2292870be88b", func := "example.com/oncebound/oncebound/zzlaws_internal_pagetx_b1.FnReadsAnySplitsAtAnyCutAndMeetsTheReads", spec := "fnReadsAnySplitsAtAnyCutAndMeetsTheReads", plainKeys := false, apart := false }
def FnReadsAnySplitsAtAnyCutAndMeetsTheReadsSaid : Prop := fnReadsAnySplitsAtAnyCutAndMeetsTheReadsRow.holds Try.pinned (OpenSpec.ofChange fnReadsAnySplitsAtAnyCutAndMeetsTheReadsSpec)

/-- ITS FALSE NEIGHBOUR: 'it returns false'. Refute it at one input. -/
def fnReadsAnySplitsAtAnyCutAndMeetsTheReadsWrong : ChangeSpec := { name := "fnReadsAnySplitsAtAnyCutAndMeetsTheReads", fn := fun _ => fun
  | [d1, d2, d3] => { results := [.lit (.bool false)], args := [d1, d2, d3] }
  | _ => none }
def FnReadsAnySplitsAtAnyCutAndMeetsTheReadsWrongFalsely : Prop := fnReadsAnySplitsAtAnyCutAndMeetsTheReadsRow.holds Try.pinned (OpenSpec.ofChange fnReadsAnySplitsAtAnyCutAndMeetsTheReadsWrong)

/-- 'zzlaws_internal_pagetx_b1.FnReadsAnyIsSymmetricAndSeesAnyAddedRead': WHATEVER THE INPUT: true; the input reads as it did. -/
def fnReadsAnyIsSymmetricAndSeesAnyAddedReadSpec : ChangeSpec := { name := "fnReadsAnyIsSymmetricAndSeesAnyAddedRead", fn := fun _ => fun
  | [d1, d2, d3] => { results := [.lit (.bool true)], args := [d1, d2, d3] }
  | _ => none }
def fnReadsAnyIsSymmetricAndSeesAnyAddedReadRow : OpenClaim := { program := "qxb6613880a", sum := "fc183d96097eb84a7d26b7979f3e9f002fcdd2933914d0426b3b2292870be88b", func := "example.com/oncebound/oncebound/zzlaws_internal_pagetx_b1.FnReadsAnyIsSymmetricAndSeesAnyAddedRead", spec := "fnReadsAnyIsSymmetricAndSeesAnyAddedRead", plainKeys := false, apart := false }
def FnReadsAnyIsSymmetricAndSeesAnyAddedReadSaid : Prop := fnReadsAnyIsSymmetricAndSeesAnyAddedReadRow.holds Try.pinned (OpenSpec.ofChange fnReadsAnyIsSymmetricAndSeesAnyAddedReadSpec)

/-- ITS FALSE NEIGHBOUR: 'it returns false'. Refute it at one input. -/
def fnReadsAnyIsSymmetricAndSeesAnyAddedReadWrong : ChangeSpec := { name := "fnReadsAnyIsSymmetricAndSeesAnyAddedRead", fn := fun _ => fun
  | [d1, d2, d3] => { results := [.lit (.bool false)], args := [d1, d2, d3] }
  | _ => none }
def FnReadsAnyIsSymmetricAndSeesAnyAddedReadWrongFalsely : Prop := fnReadsAnyIsSymmetricAndSeesAnyAddedReadRow.holds Try.pinned (OpenSpec.ofChange fnReadsAnyIsSymmetricAndSeesAnyAddedReadWrong)

end Rows
end Go.Proofs.Qxb6613880a
