/-
  No cell of these rows narrows 'for every input' (looked for: loops, veiled, ifaces, maps, wideKeys, modest, calm, conditions, laid).
  DERIVED. THE GIVEN ROWS OF THIS SEAT. 3 by the template 'for every input the law returns true; each argument reads behind the call as it read before'; 0 by the template 'total and deterministic' (their statements: Qxb6621667aTotals.lean).
  GIVEN WITH THE SEED: the statements are not yours to turn. If you find one false, say at which input.
  Laid BY PROGRAM, IN A SANDBOX (cutbox-rows.mjs): the forced cells as the released guide's own fill.sh prints them over the translation 6c982120e862af07… (all of the seat's roots in one cut). By AI agents, Wed Nov 11 2026. No macro, syntax, notation, axiom, sorry.
-/
import Derived.Test.Qxb6621667aChecked
import GoSem.Claim
import GoSem.ClaimJoined
import GoSem.ClaimMapViews
import Derived.JoinedTies
import Derived.KernelRfl
namespace Go.Proofs.Qxb6621667a
/- THE CELL 'sum', in the pinned program and in every row, IS THE sha256 OF THE DUMP (.gsa) THAT Qxb6621667aProg.lean LOADS. Nothing in Lean hashes anything: it is a label: what it is worth is what the hold of that sum in a sandbox is worth. -/
noncomputable def Try.pinned : Pinned := { name := "qxb6621667a", sum := "6c982120e862af07a016613477a597d105abbdeb424683a7304c97af3a7bc4d6", checked := Try.checked }
namespace Rows
def none {H : Type} : Left H := { results := [], args := [] }

/-- 'zzlaws_api_b1.FnProbeSetDefaultsFillsZerosOnceAndOnlyThem': WHATEVER THE INPUT: true; the input reads as it did. -/
def fnProbeSetDefaultsFillsZerosOnceAndOnlyThemSpec : ChangeSpec := { name := "fnProbeSetDefaultsFillsZerosOnceAndOnlyThem", fn := fun _ => fun
  | [d1, d2, d3, d4, d5, d6, d7, d8, d9, d10, d11, d12] => { results := [.lit (.bool true)], args := [d1, d2, d3, d4, d5, d6, d7, d8, d9, d10, d11, d12] }
  | _ => none }
def fnProbeSetDefaultsFillsZerosOnceAndOnlyThemRow : OpenClaim := { program := "qxb6621667a", sum := "6c982120e862af07a016613477a597d105abbdeb424683a7304c97af3a7bc4d6", func := "example.com/windlass/windlass/zzlaws_api_b1.FnProbeSetDefaultsFillsZerosOnceAndOnlyThem", spec := "fnProbeSetDefaultsFillsZerosOnceAndOnlyThem", apart := false }
def FnProbeSetDefaultsFillsZerosOnceAndOnlyThemSaid : Prop := fnProbeSetDefaultsFillsZerosOnceAndOnlyThemRow.holds Try.pinned (OpenSpec.ofChange fnProbeSetDefaultsFillsZerosOnceAndOnlyThemSpec)

/-- ITS FALSE NEIGHBOUR: 'it returns false'. Refute it at one input. -/
def fnProbeSetDefaultsFillsZerosOnceAndOnlyThemWrong : ChangeSpec := { name := "fnProbeSetDefaultsFillsZerosOnceAndOnlyThem", fn := fun _ => fun
  | [d1, d2, d3, d4, d5, d6, d7, d8, d9, d10, d11, d12] => { results := [.lit (.bool false)], args := [d1, d2, d3, d4, d5, d6, d7, d8, d9, d10, d11, d12] }
  | _ => none }
def FnProbeSetDefaultsFillsZerosOnceAndOnlyThemWrongFalsely : Prop := fnProbeSetDefaultsFillsZerosOnceAndOnlyThemRow.holds Try.pinned (OpenSpec.ofChange fnProbeSetDefaultsFillsZerosOnceAndOnlyThemWrong)

/-- 'zzlaws_api_b1.FnComputeOfQuotaNamesOfAResource': WHATEVER THE INPUT: true; the input reads as it did. -/
def fnComputeOfQuotaNamesOfAResourceSpec : ChangeSpec := { name := "fnComputeOfQuotaNamesOfAResource", fn := fun _ => fun
  | [d] => { results := [.lit (.bool true)], args := [d] }
  | _ => none }
def fnComputeOfQuotaNamesOfAResourceRow : OpenClaim := { program := "qxb6621667a", sum := "6c982120e862af07a016613477a597d105abbdeb424683a7304c97af3a7bc4d6", func := "example.com/windlass/windlass/zzlaws_api_b1.FnComputeOfQuotaNamesOfAResource", spec := "fnComputeOfQuotaNamesOfAResource", apart := false }
def FnComputeOfQuotaNamesOfAResourceSaid : Prop := fnComputeOfQuotaNamesOfAResourceRow.holds Try.pinned (OpenSpec.ofChange fnComputeOfQuotaNamesOfAResourceSpec)

/-- ITS FALSE NEIGHBOUR: 'it returns false'. Refute it at one input. -/
def fnComputeOfQuotaNamesOfAResourceWrong : ChangeSpec := { name := "fnComputeOfQuotaNamesOfAResource", fn := fun _ => fun
  | [d] => { results := [.lit (.bool false)], args := [d] }
  | _ => none }
def FnComputeOfQuotaNamesOfAResourceWrongFalsely : Prop := fnComputeOfQuotaNamesOfAResourceRow.holds Try.pinned (OpenSpec.ofChange fnComputeOfQuotaNamesOfAResourceWrong)

/-- 'zzlaws_api_b1.FnQuantitySignIsTheSignOfItsAmount': WHATEVER THE INPUT: true; the input reads as it did. -/
def fnQuantitySignIsTheSignOfItsAmountSpec : ChangeSpec := { name := "fnQuantitySignIsTheSignOfItsAmount", fn := fun _ => fun
  | [d1, d2, d3] => { results := [.lit (.bool true)], args := [d1, d2, d3] }
  | _ => none }
def fnQuantitySignIsTheSignOfItsAmountRow : OpenClaim := { program := "qxb6621667a", sum := "6c982120e862af07a016613477a597d105abbdeb424683a7304c97af3a7bc4d6", func := "example.com/windlass/windlass/zzlaws_api_b1.FnQuantitySignIsTheSignOfItsAmount", spec := "fnQuantitySignIsTheSignOfItsAmount", apart := false }
def FnQuantitySignIsTheSignOfItsAmountSaid : Prop := fnQuantitySignIsTheSignOfItsAmountRow.holds Try.pinned (OpenSpec.ofChange fnQuantitySignIsTheSignOfItsAmountSpec)

/-- ITS FALSE NEIGHBOUR: 'it returns false'. Refute it at one input. -/
def fnQuantitySignIsTheSignOfItsAmountWrong : ChangeSpec := { name := "fnQuantitySignIsTheSignOfItsAmount", fn := fun _ => fun
  | [d1, d2, d3] => { results := [.lit (.bool false)], args := [d1, d2, d3] }
  | _ => none }
def FnQuantitySignIsTheSignOfItsAmountWrongFalsely : Prop := fnQuantitySignIsTheSignOfItsAmountRow.holds Try.pinned (OpenSpec.ofChange fnQuantitySignIsTheSignOfItsAmountWrong)

end Rows
end Go.Proofs.Qxb6621667a
