/-
  No cell of these rows narrows 'for every input' (looked for: loops, veiled, ifaces, maps, wideKeys, modest, calm, conditions, laid).
  DERIVED. THE GIVEN ROWS OF THIS SEAT. 7 by the template 'for every input the law returns true; each argument reads behind the call as it read before'; 0 by the template 'total and deterministic' (their statements: Qxb6603170aTotals.lean).
  GIVEN WITH THE SEED: the statements are not yours to turn. If you find one false, say at which input.
  Laid BY PROGRAM, IN A SANDBOX (cutbox-rows.mjs): the forced cells as the released guide's own fill.sh prints them over the translation 48629c31492b2f89… (all of the seat's roots in one cut). By AI agents, Wed Nov 11 2026. No macro, syntax, notation, axiom, sorry.
-/
import Derived.Test.Qxb6603170aChecked
import GoSem.Claim
import GoSem.ClaimJoined
import GoSem.ClaimMapViews
import Derived.JoinedTies
import Derived.KernelRfl
namespace Go.Proofs.Qxb6603170a
/- THE CELL 'sum', in the pinned program and in every row, IS THE sha256 OF THE DUMP (.gsa) THAT Qxb6603170aProg.lean LOADS. Nothing in Lean hashes anything: it is a label: what it is worth is what the hold of that sum in a sandbox is worth. -/
noncomputable def Try.pinned : Pinned := { name := "qxb6603170a", sum := "48629c31492b2f89e5b95196fa349644350bab2375e33e894d179f7ba616c553", checked := Try.checked }
namespace Rows
def none {H : Type} : Left H := { results := [], args := [] }

/-- 'zzlaws_input_b1.FnFittestIsFirstMostNamed': WHATEVER THE INPUT: true; the input reads as it did. -/
def fnFittestIsFirstMostNamedSpec : ChangeSpec := { name := "fnFittestIsFirstMostNamed", fn := fun _ => fun
  | [d1, d2] => { results := [.lit (.bool true)], args := [d1, d2] }
  | _ => none }
def fnFittestIsFirstMostNamedRow : OpenClaim := { program := "qxb6603170a", sum := "48629c31492b2f89e5b95196fa349644350bab2375e33e894d179f7ba616c553", func := "example.com/ledgerkeel/ledgerkeel/zzlaws_input_b1.FnFittestIsFirstMostNamed", spec := "fnFittestIsFirstMostNamed", apart := false }
def FnFittestIsFirstMostNamedSaid : Prop := fnFittestIsFirstMostNamedRow.holds Try.pinned (OpenSpec.ofChange fnFittestIsFirstMostNamedSpec)

/-- ITS FALSE NEIGHBOUR: 'it returns false'. Refute it at one input. -/
def fnFittestIsFirstMostNamedWrong : ChangeSpec := { name := "fnFittestIsFirstMostNamed", fn := fun _ => fun
  | [d1, d2] => { results := [.lit (.bool false)], args := [d1, d2] }
  | _ => none }
def FnFittestIsFirstMostNamedWrongFalsely : Prop := fnFittestIsFirstMostNamedRow.holds Try.pinned (OpenSpec.ofChange fnFittestIsFirstMostNamedWrong)

/-- 'zzlaws_input_b1.FnFittestIgnoresHeaderOrder': WHATEVER THE INPUT: true; the input reads as it did. -/
def fnFittestIgnoresHeaderOrderSpec : ChangeSpec := { name := "fnFittestIgnoresHeaderOrder", fn := fun _ => fun
  | [d1, d2] => { results := [.lit (.bool true)], args := [d1, d2] }
  | _ => none }
def fnFittestIgnoresHeaderOrderRow : OpenClaim := { program := "qxb6603170a", sum := "48629c31492b2f89e5b95196fa349644350bab2375e33e894d179f7ba616c553", func := "example.com/ledgerkeel/ledgerkeel/zzlaws_input_b1.FnFittestIgnoresHeaderOrder", spec := "fnFittestIgnoresHeaderOrder", apart := false }
def FnFittestIgnoresHeaderOrderSaid : Prop := fnFittestIgnoresHeaderOrderRow.holds Try.pinned (OpenSpec.ofChange fnFittestIgnoresHeaderOrderSpec)

/-- ITS FALSE NEIGHBOUR: 'it returns false'. Refute it at one input. -/
def fnFittestIgnoresHeaderOrderWrong : ChangeSpec := { name := "fnFittestIgnoresHeaderOrder", fn := fun _ => fun
  | [d1, d2] => { results := [.lit (.bool false)], args := [d1, d2] }
  | _ => none }
def FnFittestIgnoresHeaderOrderWrongFalsely : Prop := fnFittestIgnoresHeaderOrderRow.holds Try.pinned (OpenSpec.ofChange fnFittestIgnoresHeaderOrderWrong)

/-- 'zzlaws_input_b1.FnFittestKeepsFirstOfRepeatedKinds': WHATEVER THE INPUT: true; the input reads as it did. -/
def fnFittestKeepsFirstOfRepeatedKindsSpec : ChangeSpec := { name := "fnFittestKeepsFirstOfRepeatedKinds", fn := fun _ => fun
  | [d1, d2] => { results := [.lit (.bool true)], args := [d1, d2] }
  | _ => none }
def fnFittestKeepsFirstOfRepeatedKindsRow : OpenClaim := { program := "qxb6603170a", sum := "48629c31492b2f89e5b95196fa349644350bab2375e33e894d179f7ba616c553", func := "example.com/ledgerkeel/ledgerkeel/zzlaws_input_b1.FnFittestKeepsFirstOfRepeatedKinds", spec := "fnFittestKeepsFirstOfRepeatedKinds", apart := false }
def FnFittestKeepsFirstOfRepeatedKindsSaid : Prop := fnFittestKeepsFirstOfRepeatedKindsRow.holds Try.pinned (OpenSpec.ofChange fnFittestKeepsFirstOfRepeatedKindsSpec)

/-- ITS FALSE NEIGHBOUR: 'it returns false'. Refute it at one input. -/
def fnFittestKeepsFirstOfRepeatedKindsWrong : ChangeSpec := { name := "fnFittestKeepsFirstOfRepeatedKinds", fn := fun _ => fun
  | [d1, d2] => { results := [.lit (.bool false)], args := [d1, d2] }
  | _ => none }
def FnFittestKeepsFirstOfRepeatedKindsWrongFalsely : Prop := fnFittestKeepsFirstOfRepeatedKindsRow.holds Try.pinned (OpenSpec.ofChange fnFittestKeepsFirstOfRepeatedKindsWrong)

/-- 'zzlaws_input_b1.FnTrimKeepsFirstInLineOrder': WHATEVER THE INPUT: true; the input reads as it did. -/
def fnTrimKeepsFirstInLineOrderSpec : ChangeSpec := { name := "fnTrimKeepsFirstInLineOrder", fn := fun _ => fun
  | [d1, d2] => { results := [.lit (.bool true)], args := [d1, d2] }
  | _ => none }
def fnTrimKeepsFirstInLineOrderRow : OpenClaim := { program := "qxb6603170a", sum := "48629c31492b2f89e5b95196fa349644350bab2375e33e894d179f7ba616c553", func := "example.com/ledgerkeel/ledgerkeel/zzlaws_input_b1.FnTrimKeepsFirstInLineOrder", spec := "fnTrimKeepsFirstInLineOrder", unfollowed := true, recurses := true, apart := false }
def FnTrimKeepsFirstInLineOrderSaid : Prop := fnTrimKeepsFirstInLineOrderRow.holds Try.pinned (OpenSpec.ofChange fnTrimKeepsFirstInLineOrderSpec)

/-- ITS FALSE NEIGHBOUR: 'it returns false'. Refute it at one input. -/
def fnTrimKeepsFirstInLineOrderWrong : ChangeSpec := { name := "fnTrimKeepsFirstInLineOrder", fn := fun _ => fun
  | [d1, d2] => { results := [.lit (.bool false)], args := [d1, d2] }
  | _ => none }
def FnTrimKeepsFirstInLineOrderWrongFalsely : Prop := fnTrimKeepsFirstInLineOrderRow.holds Try.pinned (OpenSpec.ofChange fnTrimKeepsFirstInLineOrderWrong)

/-- 'zzlaws_input_b1.FnTrimIsIdempotent': WHATEVER THE INPUT: true; the input reads as it did. -/
def fnTrimIsIdempotentSpec : ChangeSpec := { name := "fnTrimIsIdempotent", fn := fun _ => fun
  | [d1, d2] => { results := [.lit (.bool true)], args := [d1, d2] }
  | _ => none }
def fnTrimIsIdempotentRow : OpenClaim := { program := "qxb6603170a", sum := "48629c31492b2f89e5b95196fa349644350bab2375e33e894d179f7ba616c553", func := "example.com/ledgerkeel/ledgerkeel/zzlaws_input_b1.FnTrimIsIdempotent", spec := "fnTrimIsIdempotent", unfollowed := true, recurses := true, apart := false }
def FnTrimIsIdempotentSaid : Prop := fnTrimIsIdempotentRow.holds Try.pinned (OpenSpec.ofChange fnTrimIsIdempotentSpec)

/-- ITS FALSE NEIGHBOUR: 'it returns false'. Refute it at one input. -/
def fnTrimIsIdempotentWrong : ChangeSpec := { name := "fnTrimIsIdempotent", fn := fun _ => fun
  | [d1, d2] => { results := [.lit (.bool false)], args := [d1, d2] }
  | _ => none }
def FnTrimIsIdempotentWrongFalsely : Prop := fnTrimIsIdempotentRow.holds Try.pinned (OpenSpec.ofChange fnTrimIsIdempotentWrong)

/-- 'zzlaws_input_b1.FnAddHoldsFirstRefusalsInLineOrder': WHATEVER THE INPUT: true; the input reads as it did. -/
def fnAddHoldsFirstRefusalsInLineOrderSpec : ChangeSpec := { name := "fnAddHoldsFirstRefusalsInLineOrder", fn := fun _ => fun
  | [d] => { results := [.lit (.bool true)], args := [d] }
  | _ => none }
def fnAddHoldsFirstRefusalsInLineOrderRow : OpenClaim := { program := "qxb6603170a", sum := "48629c31492b2f89e5b95196fa349644350bab2375e33e894d179f7ba616c553", func := "example.com/ledgerkeel/ledgerkeel/zzlaws_input_b1.FnAddHoldsFirstRefusalsInLineOrder", spec := "fnAddHoldsFirstRefusalsInLineOrder", unfollowed := true, recurses := true, apart := false }
def FnAddHoldsFirstRefusalsInLineOrderSaid : Prop := fnAddHoldsFirstRefusalsInLineOrderRow.holds Try.pinned (OpenSpec.ofChange fnAddHoldsFirstRefusalsInLineOrderSpec)

/-- ITS FALSE NEIGHBOUR: 'it returns false'. Refute it at one input. -/
def fnAddHoldsFirstRefusalsInLineOrderWrong : ChangeSpec := { name := "fnAddHoldsFirstRefusalsInLineOrder", fn := fun _ => fun
  | [d] => { results := [.lit (.bool false)], args := [d] }
  | _ => none }
def FnAddHoldsFirstRefusalsInLineOrderWrongFalsely : Prop := fnAddHoldsFirstRefusalsInLineOrderRow.holds Try.pinned (OpenSpec.ofChange fnAddHoldsFirstRefusalsInLineOrderWrong)

/-- 'zzlaws_input_b1.FnAddKeepsHeldListBounded': WHATEVER THE INPUT: true; the input reads as it did. -/
def fnAddKeepsHeldListBoundedSpec : ChangeSpec := { name := "fnAddKeepsHeldListBounded", fn := fun _ => fun
  | [d] => { results := [.lit (.bool true)], args := [d] }
  | _ => none }
def fnAddKeepsHeldListBoundedRow : OpenClaim := { program := "qxb6603170a", sum := "48629c31492b2f89e5b95196fa349644350bab2375e33e894d179f7ba616c553", func := "example.com/ledgerkeel/ledgerkeel/zzlaws_input_b1.FnAddKeepsHeldListBounded", spec := "fnAddKeepsHeldListBounded", unfollowed := true, recurses := true, apart := false }
def FnAddKeepsHeldListBoundedSaid : Prop := fnAddKeepsHeldListBoundedRow.holds Try.pinned (OpenSpec.ofChange fnAddKeepsHeldListBoundedSpec)

/-- ITS FALSE NEIGHBOUR: 'it returns false'. Refute it at one input. -/
def fnAddKeepsHeldListBoundedWrong : ChangeSpec := { name := "fnAddKeepsHeldListBounded", fn := fun _ => fun
  | [d] => { results := [.lit (.bool false)], args := [d] }
  | _ => none }
def FnAddKeepsHeldListBoundedWrongFalsely : Prop := fnAddKeepsHeldListBoundedRow.holds Try.pinned (OpenSpec.ofChange fnAddKeepsHeldListBoundedWrong)

end Rows
end Go.Proofs.Qxb6603170a
