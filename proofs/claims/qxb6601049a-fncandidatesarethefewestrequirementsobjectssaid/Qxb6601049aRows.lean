/-
  No cell of these rows narrows 'for every input' (looked for: loops, veiled, ifaces, maps, wideKeys, modest, calm, conditions, laid).
  DERIVED. THE GIVEN ROWS OF THIS SEAT. 5 by the template 'for every input the law returns true; each argument reads behind the call as it read before'; 0 by the template 'total and deterministic' (their statements: Qxb6601049aTotals.lean).
  GIVEN WITH THE SEED: the statements are not yours to turn. If you find one false, say at which input.
  Laid BY PROGRAM, IN A SANDBOX (cutbox-rows.mjs): the forced cells as the released guide's own fill.sh prints them over the translation 01f053920e4f7c47… (all of the seat's roots in one cut). By AI agents, Wed Nov 11 2026. No macro, syntax, notation, axiom, sorry.
-/
import Derived.Test.Qxb6601049aChecked
import GoSem.Claim
import GoSem.ClaimJoined
import GoSem.ClaimMapViews
import Derived.JoinedTies
import Derived.KernelRfl
namespace Go.Proofs.Qxb6601049a
/- THE CELL 'sum', in the pinned program and in every row, IS THE sha256 OF THE DUMP (.gsa) THAT Qxb6601049aProg.lean LOADS. Nothing in Lean hashes anything: it is a label: what it is worth is what the hold of that sum in a sandbox is worth. -/
noncomputable def Try.pinned : Pinned := { name := "qxb6601049a", sum := "01f053920e4f7c4733caeb224a497aa9860cce7d9de456e56a812a5acc2dacf4", checked := Try.checked }
namespace Rows
def none {H : Type} : Left H := { results := [], args := [] }

/-- 'zzlaws_internal_contract_b1.FnPostingMeetsIsSharedMember': WHATEVER THE INPUT: true; the input reads as it did. -/
def fnPostingMeetsIsSharedMemberSpec : ChangeSpec := { name := "fnPostingMeetsIsSharedMember", fn := fun _ => fun
  | [d1, d2, d3] => { results := [.lit (.bool true)], args := [d1, d2, d3] }
  | _ => none }
def fnPostingMeetsIsSharedMemberRow : OpenClaim := { program := "qxb6601049a", sum := "01f053920e4f7c4733caeb224a497aa9860cce7d9de456e56a812a5acc2dacf4", func := "example.com/keelwright/keelwright/zzlaws_internal_contract_b1.FnPostingMeetsIsSharedMember", spec := "fnPostingMeetsIsSharedMember", apart := false }
def FnPostingMeetsIsSharedMemberSaid : Prop := fnPostingMeetsIsSharedMemberRow.holds Try.pinned (OpenSpec.ofChange fnPostingMeetsIsSharedMemberSpec)

/-- ITS FALSE NEIGHBOUR: 'it returns false'. Refute it at one input. -/
def fnPostingMeetsIsSharedMemberWrong : ChangeSpec := { name := "fnPostingMeetsIsSharedMember", fn := fun _ => fun
  | [d1, d2, d3] => { results := [.lit (.bool false)], args := [d1, d2, d3] }
  | _ => none }
def FnPostingMeetsIsSharedMemberWrongFalsely : Prop := fnPostingMeetsIsSharedMemberRow.holds Try.pinned (OpenSpec.ofChange fnPostingMeetsIsSharedMemberWrong)

/-- 'zzlaws_internal_contract_b1.FnPostingMeetsIsSymmetric': WHATEVER THE INPUT: true; the input reads as it did. -/
def fnPostingMeetsIsSymmetricSpec : ChangeSpec := { name := "fnPostingMeetsIsSymmetric", fn := fun _ => fun
  | [d1, d2, d3] => { results := [.lit (.bool true)], args := [d1, d2, d3] }
  | _ => none }
def fnPostingMeetsIsSymmetricRow : OpenClaim := { program := "qxb6601049a", sum := "01f053920e4f7c4733caeb224a497aa9860cce7d9de456e56a812a5acc2dacf4", func := "example.com/keelwright/keelwright/zzlaws_internal_contract_b1.FnPostingMeetsIsSymmetric", spec := "fnPostingMeetsIsSymmetric", apart := false }
def FnPostingMeetsIsSymmetricSaid : Prop := fnPostingMeetsIsSymmetricRow.holds Try.pinned (OpenSpec.ofChange fnPostingMeetsIsSymmetricSpec)

/-- ITS FALSE NEIGHBOUR: 'it returns false'. Refute it at one input. -/
def fnPostingMeetsIsSymmetricWrong : ChangeSpec := { name := "fnPostingMeetsIsSymmetric", fn := fun _ => fun
  | [d1, d2, d3] => { results := [.lit (.bool false)], args := [d1, d2, d3] }
  | _ => none }
def FnPostingMeetsIsSymmetricWrongFalsely : Prop := fnPostingMeetsIsSymmetricRow.holds Try.pinned (OpenSpec.ofChange fnPostingMeetsIsSymmetricWrong)

/-- 'zzlaws_internal_contract_b1.FnNewLabelIndexPostingsAreTheScan': WHATEVER THE INPUT: true; the input reads as it did. -/
def fnNewLabelIndexPostingsAreTheScanSpec : ChangeSpec := { name := "fnNewLabelIndexPostingsAreTheScan", fn := fun _ => fun
  | [d1, d2] => { results := [.lit (.bool true)], args := [d1, d2] }
  | _ => none }
def fnNewLabelIndexPostingsAreTheScanRow : OpenClaim := { program := "qxb6601049a", sum := "01f053920e4f7c4733caeb224a497aa9860cce7d9de456e56a812a5acc2dacf4", func := "example.com/keelwright/keelwright/zzlaws_internal_contract_b1.FnNewLabelIndexPostingsAreTheScan", spec := "fnNewLabelIndexPostingsAreTheScan", apart := false }
def FnNewLabelIndexPostingsAreTheScanSaid : Prop := fnNewLabelIndexPostingsAreTheScanRow.holds Try.pinned (OpenSpec.ofChange fnNewLabelIndexPostingsAreTheScanSpec)

/-- ITS FALSE NEIGHBOUR: 'it returns false'. Refute it at one input. -/
def fnNewLabelIndexPostingsAreTheScanWrong : ChangeSpec := { name := "fnNewLabelIndexPostingsAreTheScan", fn := fun _ => fun
  | [d1, d2] => { results := [.lit (.bool false)], args := [d1, d2] }
  | _ => none }
def FnNewLabelIndexPostingsAreTheScanWrongFalsely : Prop := fnNewLabelIndexPostingsAreTheScanRow.holds Try.pinned (OpenSpec.ofChange fnNewLabelIndexPostingsAreTheScanWrong)

/-- 'zzlaws_internal_contract_b1.FnCandidatesAreTheFewestRequirementsObjects': WHATEVER THE INPUT: true; the input reads as it did. -/
def fnCandidatesAreTheFewestRequirementsObjectsSpec : ChangeSpec := { name := "fnCandidatesAreTheFewestRequirementsObjects", fn := fun _ => fun
  | [d1, d2] => { results := [.lit (.bool true)], args := [d1, d2] }
  | _ => none }
def fnCandidatesAreTheFewestRequirementsObjectsRow : OpenClaim := { program := "qxb6601049a", sum := "01f053920e4f7c4733caeb224a497aa9860cce7d9de456e56a812a5acc2dacf4", func := "example.com/keelwright/keelwright/zzlaws_internal_contract_b1.FnCandidatesAreTheFewestRequirementsObjects", spec := "fnCandidatesAreTheFewestRequirementsObjects", apart := false }
def FnCandidatesAreTheFewestRequirementsObjectsSaid : Prop := fnCandidatesAreTheFewestRequirementsObjectsRow.holds Try.pinned (OpenSpec.ofChange fnCandidatesAreTheFewestRequirementsObjectsSpec)

/-- ITS FALSE NEIGHBOUR: 'it returns false'. Refute it at one input. -/
def fnCandidatesAreTheFewestRequirementsObjectsWrong : ChangeSpec := { name := "fnCandidatesAreTheFewestRequirementsObjects", fn := fun _ => fun
  | [d1, d2] => { results := [.lit (.bool false)], args := [d1, d2] }
  | _ => none }
def FnCandidatesAreTheFewestRequirementsObjectsWrongFalsely : Prop := fnCandidatesAreTheFewestRequirementsObjectsRow.holds Try.pinned (OpenSpec.ofChange fnCandidatesAreTheFewestRequirementsObjectsWrong)

/-- 'zzlaws_internal_contract_b1.FnCandidatesHoldEverySelectedObjectOnce': WHATEVER THE INPUT: true; the input reads as it did. -/
def fnCandidatesHoldEverySelectedObjectOnceSpec : ChangeSpec := { name := "fnCandidatesHoldEverySelectedObjectOnce", fn := fun _ => fun
  | [d1, d2] => { results := [.lit (.bool true)], args := [d1, d2] }
  | _ => none }
def fnCandidatesHoldEverySelectedObjectOnceRow : OpenClaim := { program := "qxb6601049a", sum := "01f053920e4f7c4733caeb224a497aa9860cce7d9de456e56a812a5acc2dacf4", func := "example.com/keelwright/keelwright/zzlaws_internal_contract_b1.FnCandidatesHoldEverySelectedObjectOnce", spec := "fnCandidatesHoldEverySelectedObjectOnce", apart := false }
def FnCandidatesHoldEverySelectedObjectOnceSaid : Prop := fnCandidatesHoldEverySelectedObjectOnceRow.holds Try.pinned (OpenSpec.ofChange fnCandidatesHoldEverySelectedObjectOnceSpec)

/-- ITS FALSE NEIGHBOUR: 'it returns false'. Refute it at one input. -/
def fnCandidatesHoldEverySelectedObjectOnceWrong : ChangeSpec := { name := "fnCandidatesHoldEverySelectedObjectOnce", fn := fun _ => fun
  | [d1, d2] => { results := [.lit (.bool false)], args := [d1, d2] }
  | _ => none }
def FnCandidatesHoldEverySelectedObjectOnceWrongFalsely : Prop := fnCandidatesHoldEverySelectedObjectOnceRow.holds Try.pinned (OpenSpec.ofChange fnCandidatesHoldEverySelectedObjectOnceWrong)

end Rows
end Go.Proofs.Qxb6601049a
