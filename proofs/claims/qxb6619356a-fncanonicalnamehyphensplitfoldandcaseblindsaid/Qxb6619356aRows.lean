/-
  No cell of these rows narrows 'for every input' (looked for: loops, veiled, ifaces, maps, wideKeys, modest, calm, conditions, laid).
  DERIVED. THE GIVEN ROWS OF THIS SEAT. 1 by the template 'for every input the law returns true; each argument reads behind the call as it read before'; 0 by the template 'total and deterministic' (their statements: Qxb6619356aTotals.lean).
  GIVEN WITH THE SEED: the statements are not yours to turn. If you find one false, say at which input.
  Laid BY PROGRAM, IN A SANDBOX (cutbox-rows.mjs): the forced cells as the released guide's own fill.sh prints them over the translation 56f180654b56f0da… (all of the seat's roots in one cut). By AI agents, Wed Nov 11 2026. No macro, syntax, notation, axiom, sorry.
-/
import Derived.Test.Qxb6619356aChecked
import GoSem.Claim
import GoSem.ClaimJoined
import GoSem.ClaimMapViews
import Derived.JoinedTies
import Derived.KernelRfl
namespace Go.Proofs.Qxb6619356a
/- THE CELL 'sum', in the pinned program and in every row, IS THE sha256 OF THE DUMP (.gsa) THAT Qxb6619356aProg.lean LOADS. Nothing in Lean hashes anything: it is a label: what it is worth is what the hold of that sum in a sandbox is worth. -/
noncomputable def Try.pinned : Pinned := { name := "qxb6619356a", sum := "56f180654b56f0da37d713567640cdd555dff52400e1be37023c4e84070acef4", checked := Try.checked }
namespace Rows
def none {H : Type} : Left H := { results := [], args := [] }

/-- 'zzlaws_internal_http1_b1.FnCanonicalNameHyphenSplitFoldAndCaseBlind': WHATEVER THE INPUT: true; the input reads as it did. -/
def fnCanonicalNameHyphenSplitFoldAndCaseBlindSpec : ChangeSpec := { name := "fnCanonicalNameHyphenSplitFoldAndCaseBlind", fn := fun _ => fun
  | [d1, d2] => { results := [.lit (.bool true)], args := [d1, d2] }
  | _ => none }
def fnCanonicalNameHyphenSplitFoldAndCaseBlindRow : OpenClaim := { program := "qxb6619356a", sum := "56f180654b56f0da37d713567640cdd555dff52400e1be37023c4e84070acef4", func := "example.com/lockstep/lockstep/zzlaws_internal_http1_b1.FnCanonicalNameHyphenSplitFoldAndCaseBlind", spec := "fnCanonicalNameHyphenSplitFoldAndCaseBlind", apart := false }
def FnCanonicalNameHyphenSplitFoldAndCaseBlindSaid : Prop := fnCanonicalNameHyphenSplitFoldAndCaseBlindRow.holds Try.pinned (OpenSpec.ofChange fnCanonicalNameHyphenSplitFoldAndCaseBlindSpec)

/-- ITS FALSE NEIGHBOUR: 'it returns false'. Refute it at one input. -/
def fnCanonicalNameHyphenSplitFoldAndCaseBlindWrong : ChangeSpec := { name := "fnCanonicalNameHyphenSplitFoldAndCaseBlind", fn := fun _ => fun
  | [d1, d2] => { results := [.lit (.bool false)], args := [d1, d2] }
  | _ => none }
def FnCanonicalNameHyphenSplitFoldAndCaseBlindWrongFalsely : Prop := fnCanonicalNameHyphenSplitFoldAndCaseBlindRow.holds Try.pinned (OpenSpec.ofChange fnCanonicalNameHyphenSplitFoldAndCaseBlindWrong)

end Rows
end Go.Proofs.Qxb6619356a
