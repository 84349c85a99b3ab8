/-
  No cell of these rows narrows 'for every input' (looked for: loops, veiled, ifaces, maps, wideKeys, modest, calm, conditions, laid).
  DERIVED. THE GIVEN ROWS OF THIS SEAT. 5 by the template 'for every input the law returns true; each argument reads behind the call as it read before'; 0 by the template 'total and deterministic' (their statements: Qxb6601060aTotals.lean).
  GIVEN WITH THE SEED: the statements are not yours to turn. If you find one false, say at which input.
  Laid BY PROGRAM, IN A SANDBOX (cutbox-rows.mjs): the forced cells as the released guide's own fill.sh prints them over the translation c9e668da5ff5c685… (all of the seat's roots in one cut). By AI agents, Wed Nov 11 2026. No macro, syntax, notation, axiom, sorry.
-/
import Derived.Test.Qxb6601060aChecked
import GoSem.Claim
import GoSem.ClaimJoined
import GoSem.ClaimMapViews
import Derived.JoinedTies
import Derived.KernelRfl
namespace Go.Proofs.Qxb6601060a
/- THE CELL 'sum', in the pinned program and in every row, IS THE sha256 OF THE DUMP (.gsa) THAT Qxb6601060aProg.lean LOADS. Nothing in Lean hashes anything: it is a label: what it is worth is what the hold of that sum in a sandbox is worth. -/
noncomputable def Try.pinned : Pinned := { name := "qxb6601060a", sum := "c9e668da5ff5c685fcede6206dca7cd9f2f79108e16b6e455730e8cc0dcfa78f", checked := Try.checked }
namespace Rows
def none {H : Type} : Left H := { results := [], args := [] }

/-- 'zzlaws_internal_wire_b1.FnHoldsMonotoneInBits': WHATEVER THE INPUT: true; the input reads as it did. -/
def fnHoldsMonotoneInBitsSpec : ChangeSpec := { name := "fnHoldsMonotoneInBits", fn := fun _ => fun
  | [d1, d2, d3, d4, d5, d6, d7] => { results := [.lit (.bool true)], args := [d1, d2, d3, d4, d5, d6, d7] }
  | _ => none }
def fnHoldsMonotoneInBitsRow : OpenClaim := { program := "qxb6601060a", sum := "c9e668da5ff5c685fcede6206dca7cd9f2f79108e16b6e455730e8cc0dcfa78f", func := "example.com/coralstream/coralstream/zzlaws_internal_wire_b1.FnHoldsMonotoneInBits", spec := "fnHoldsMonotoneInBits", apart := false }
def FnHoldsMonotoneInBitsSaid : Prop := fnHoldsMonotoneInBitsRow.holds Try.pinned (OpenSpec.ofChange fnHoldsMonotoneInBitsSpec)

/-- ITS FALSE NEIGHBOUR: 'it returns false'. Refute it at one input. -/
def fnHoldsMonotoneInBitsWrong : ChangeSpec := { name := "fnHoldsMonotoneInBits", fn := fun _ => fun
  | [d1, d2, d3, d4, d5, d6, d7] => { results := [.lit (.bool false)], args := [d1, d2, d3, d4, d5, d6, d7] }
  | _ => none }
def FnHoldsMonotoneInBitsWrongFalsely : Prop := fnHoldsMonotoneInBitsRow.holds Try.pinned (OpenSpec.ofChange fnHoldsMonotoneInBitsWrong)

/-- 'zzlaws_internal_wire_b1.FnDPIsLastDescribed': WHATEVER THE INPUT: true; the input reads as it did. -/
def fnDPIsLastDescribedSpec : ChangeSpec := { name := "fnDPIsLastDescribed", fn := fun _ => fun
  | [d1, d2, d3, d4, d5] => { results := [.lit (.bool true)], args := [d1, d2, d3, d4, d5] }
  | _ => none }
def fnDPIsLastDescribedRow : OpenClaim := { program := "qxb6601060a", sum := "c9e668da5ff5c685fcede6206dca7cd9f2f79108e16b6e455730e8cc0dcfa78f", func := "example.com/coralstream/coralstream/zzlaws_internal_wire_b1.FnDPIsLastDescribed", spec := "fnDPIsLastDescribed", apart := false }
def FnDPIsLastDescribedSaid : Prop := fnDPIsLastDescribedRow.holds Try.pinned (OpenSpec.ofChange fnDPIsLastDescribedSpec)

/-- ITS FALSE NEIGHBOUR: 'it returns false'. Refute it at one input. -/
def fnDPIsLastDescribedWrong : ChangeSpec := { name := "fnDPIsLastDescribed", fn := fun _ => fun
  | [d1, d2, d3, d4, d5] => { results := [.lit (.bool false)], args := [d1, d2, d3, d4, d5] }
  | _ => none }
def FnDPIsLastDescribedWrongFalsely : Prop := fnDPIsLastDescribedRow.holds Try.pinned (OpenSpec.ofChange fnDPIsLastDescribedWrong)

/-- 'zzlaws_internal_wire_b1.FnNothingHeldPastDP': WHATEVER THE INPUT: true; the input reads as it did. -/
def fnNothingHeldPastDPSpec : ChangeSpec := { name := "fnNothingHeldPastDP", fn := fun _ => fun
  | [d1, d2, d3, d4, d5, d6] => { results := [.lit (.bool true)], args := [d1, d2, d3, d4, d5, d6] }
  | _ => none }
def fnNothingHeldPastDPRow : OpenClaim := { program := "qxb6601060a", sum := "c9e668da5ff5c685fcede6206dca7cd9f2f79108e16b6e455730e8cc0dcfa78f", func := "example.com/coralstream/coralstream/zzlaws_internal_wire_b1.FnNothingHeldPastDP", spec := "fnNothingHeldPastDP", apart := false }
def FnNothingHeldPastDPSaid : Prop := fnNothingHeldPastDPRow.holds Try.pinned (OpenSpec.ofChange fnNothingHeldPastDPSpec)

/-- ITS FALSE NEIGHBOUR: 'it returns false'. Refute it at one input. -/
def fnNothingHeldPastDPWrong : ChangeSpec := { name := "fnNothingHeldPastDP", fn := fun _ => fun
  | [d1, d2, d3, d4, d5, d6] => { results := [.lit (.bool false)], args := [d1, d2, d3, d4, d5, d6] }
  | _ => none }
def FnNothingHeldPastDPWrongFalsely : Prop := fnNothingHeldPastDPRow.holds Try.pinned (OpenSpec.ofChange fnNothingHeldPastDPWrong)

/-- 'zzlaws_internal_wire_b1.FnOctetClearsPastDSLength': WHATEVER THE INPUT: true; the input reads as it did. -/
def fnOctetClearsPastDSLengthSpec : ChangeSpec := { name := "fnOctetClearsPastDSLength", fn := fun _ => fun
  | [d1, d2, d3] => { results := [.lit (.bool true)], args := [d1, d2, d3] }
  | _ => none }
def fnOctetClearsPastDSLengthRow : OpenClaim := { program := "qxb6601060a", sum := "c9e668da5ff5c685fcede6206dca7cd9f2f79108e16b6e455730e8cc0dcfa78f", func := "example.com/coralstream/coralstream/zzlaws_internal_wire_b1.FnOctetClearsPastDSLength", spec := "fnOctetClearsPastDSLength", apart := false }
def FnOctetClearsPastDSLengthSaid : Prop := fnOctetClearsPastDSLengthRow.holds Try.pinned (OpenSpec.ofChange fnOctetClearsPastDSLengthSpec)

/-- ITS FALSE NEIGHBOUR: 'it returns false'. Refute it at one input. -/
def fnOctetClearsPastDSLengthWrong : ChangeSpec := { name := "fnOctetClearsPastDSLength", fn := fun _ => fun
  | [d1, d2, d3] => { results := [.lit (.bool false)], args := [d1, d2, d3] }
  | _ => none }
def FnOctetClearsPastDSLengthWrongFalsely : Prop := fnOctetClearsPastDSLengthRow.holds Try.pinned (OpenSpec.ofChange fnOctetClearsPastDSLengthWrong)

/-- 'zzlaws_internal_wire_b1.FnOctetAgreesWithHolds': WHATEVER THE INPUT: true; the input reads as it did. -/
def fnOctetAgreesWithHoldsSpec : ChangeSpec := { name := "fnOctetAgreesWithHolds", fn := fun _ => fun
  | [d1, d2, d3, d4, d5] => { results := [.lit (.bool true)], args := [d1, d2, d3, d4, d5] }
  | _ => none }
def fnOctetAgreesWithHoldsRow : OpenClaim := { program := "qxb6601060a", sum := "c9e668da5ff5c685fcede6206dca7cd9f2f79108e16b6e455730e8cc0dcfa78f", func := "example.com/coralstream/coralstream/zzlaws_internal_wire_b1.FnOctetAgreesWithHolds", spec := "fnOctetAgreesWithHolds", apart := false }
def FnOctetAgreesWithHoldsSaid : Prop := fnOctetAgreesWithHoldsRow.holds Try.pinned (OpenSpec.ofChange fnOctetAgreesWithHoldsSpec)

/-- ITS FALSE NEIGHBOUR: 'it returns false'. Refute it at one input. -/
def fnOctetAgreesWithHoldsWrong : ChangeSpec := { name := "fnOctetAgreesWithHolds", fn := fun _ => fun
  | [d1, d2, d3, d4, d5] => { results := [.lit (.bool false)], args := [d1, d2, d3, d4, d5] }
  | _ => none }
def FnOctetAgreesWithHoldsWrongFalsely : Prop := fnOctetAgreesWithHoldsRow.holds Try.pinned (OpenSpec.ofChange fnOctetAgreesWithHoldsWrong)

end Rows
end Go.Proofs.Qxb6601060a
