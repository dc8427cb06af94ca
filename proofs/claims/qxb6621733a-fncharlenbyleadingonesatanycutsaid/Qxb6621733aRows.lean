/-
  No cell of these rows narrows 'for every input' (looked for: loops, veiled, ifaces, maps, wideKeys, modest, calm, conditions, laid).
  DERIVED. THE GIVEN ROWS OF THIS SEAT. 2 by the template 'for every input the law returns true; each argument reads behind the call as it read before'; 0 by the template 'total and deterministic' (their statements: Qxb6621733aTotals.lean).
  GIVEN WITH THE SEED: the statements are not yours to turn. If you find one false, say at which input.
  Laid BY PROGRAM, IN A SANDBOX (cutbox-rows.mjs): the forced cells as the released guide's own fill.sh prints them over the translation 4b7f81e47c58aec4… (all of the seat's roots in one cut). By AI agents, Wed Nov 11 2026. No macro, syntax, notation, axiom, sorry.
-/
import Derived.Test.Qxb6621733aChecked
import GoSem.Claim
import GoSem.ClaimJoined
import GoSem.ClaimMapViews
import Derived.JoinedTies
import Derived.KernelRfl
namespace Go.Proofs.Qxb6621733a
/- THE CELL 'sum', in the pinned program and in every row, IS THE sha256 OF THE DUMP (.gsa) THAT Qxb6621733aProg.lean LOADS. Nothing in Lean hashes anything: it is a label: what it is worth is what the hold of that sum in a sandbox is worth. -/
noncomputable def Try.pinned : Pinned := { name := "qxb6621733a", sum := "4b7f81e47c58aec49b987292481552e4d5148b85f6da0c7365e401935c54a85a", checked := Try.checked }
namespace Rows
def none {H : Type} : Left H := { results := [], args := [] }

/-- 'zzlaws_datum_b1.FnTypeStringNamesDistinctAndPlain': WHATEVER THE INPUT: true; the input reads as it did. -/
def fnTypeStringNamesDistinctAndPlainSpec : ChangeSpec := { name := "fnTypeStringNamesDistinctAndPlain", fn := fun _ => fun
  | [d1, d2] => { results := [.lit (.bool true)], args := [d1, d2] }
  | _ => none }
def fnTypeStringNamesDistinctAndPlainRow : OpenClaim := { program := "qxb6621733a", sum := "4b7f81e47c58aec49b987292481552e4d5148b85f6da0c7365e401935c54a85a", func := "example.com/tributary/tributary/zzlaws_datum_b1.FnTypeStringNamesDistinctAndPlain", spec := "fnTypeStringNamesDistinctAndPlain", apart := false }
def FnTypeStringNamesDistinctAndPlainSaid : Prop := fnTypeStringNamesDistinctAndPlainRow.holds Try.pinned (OpenSpec.ofChange fnTypeStringNamesDistinctAndPlainSpec)

/-- ITS FALSE NEIGHBOUR: 'it returns false'. Refute it at one input. -/
def fnTypeStringNamesDistinctAndPlainWrong : ChangeSpec := { name := "fnTypeStringNamesDistinctAndPlain", fn := fun _ => fun
  | [d1, d2] => { results := [.lit (.bool false)], args := [d1, d2] }
  | _ => none }
def FnTypeStringNamesDistinctAndPlainWrongFalsely : Prop := fnTypeStringNamesDistinctAndPlainRow.holds Try.pinned (OpenSpec.ofChange fnTypeStringNamesDistinctAndPlainWrong)

/-- 'zzlaws_datum_b1.FnCharLenByLeadingOnesAtAnyCut': WHATEVER THE INPUT: true; the input reads as it did. -/
def fnCharLenByLeadingOnesAtAnyCutSpec : ChangeSpec := { name := "fnCharLenByLeadingOnesAtAnyCut", fn := fun _ => fun
  | [d1, d2] => { results := [.lit (.bool true)], args := [d1, d2] }
  | _ => none }
def fnCharLenByLeadingOnesAtAnyCutRow : OpenClaim := { program := "qxb6621733a", sum := "4b7f81e47c58aec49b987292481552e4d5148b85f6da0c7365e401935c54a85a", func := "example.com/tributary/tributary/zzlaws_datum_b1.FnCharLenByLeadingOnesAtAnyCut", spec := "fnCharLenByLeadingOnesAtAnyCut", apart := false }
def FnCharLenByLeadingOnesAtAnyCutSaid : Prop := fnCharLenByLeadingOnesAtAnyCutRow.holds Try.pinned (OpenSpec.ofChange fnCharLenByLeadingOnesAtAnyCutSpec)

/-- ITS FALSE NEIGHBOUR: 'it returns false'. Refute it at one input. -/
def fnCharLenByLeadingOnesAtAnyCutWrong : ChangeSpec := { name := "fnCharLenByLeadingOnesAtAnyCut", fn := fun _ => fun
  | [d1, d2] => { results := [.lit (.bool false)], args := [d1, d2] }
  | _ => none }
def FnCharLenByLeadingOnesAtAnyCutWrongFalsely : Prop := fnCharLenByLeadingOnesAtAnyCutRow.holds Try.pinned (OpenSpec.ofChange fnCharLenByLeadingOnesAtAnyCutWrong)

end Rows
end Go.Proofs.Qxb6621733a
