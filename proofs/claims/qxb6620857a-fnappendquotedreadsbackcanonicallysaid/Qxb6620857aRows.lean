/-
  No cell of these rows narrows 'for every input' (looked for: loops, veiled, ifaces, maps, wideKeys, modest, calm, conditions, laid).
  DERIVED. THE GIVEN ROWS OF THIS SEAT. 5 by the template 'for every input the law returns true; each argument reads behind the call as it read before'; 0 by the template 'total and deterministic' (their statements: Qxb6620857aTotals.lean).
  GIVEN WITH THE SEED: the statements are not yours to turn. If you find one false, say at which input.
  Laid BY PROGRAM, IN A SANDBOX (cutbox-rows.mjs): the forced cells as the released guide's own fill.sh prints them over the translation 33328aa1d103e2da… (all of the seat's roots in one cut). By AI agents, Wed Nov 11 2026. No macro, syntax, notation, axiom, sorry.
-/
import Derived.Test.Qxb6620857aChecked
import GoSem.Claim
import GoSem.ClaimJoined
import GoSem.ClaimMapViews
import Derived.JoinedTies
import Derived.KernelRfl
namespace Go.Proofs.Qxb6620857a
/- THE CELL 'sum', in the pinned program and in every row, IS THE sha256 OF THE DUMP (.gsa) THAT Qxb6620857aProg.lean LOADS. Nothing in Lean hashes anything: it is a label: what it is worth is what the hold of that sum in a sandbox is worth. -/
noncomputable def Try.pinned : Pinned := { name := "qxb6620857a", sum := "33328aa1d103e2da316515320f9848b9ee84d9860411b89d4f4092fe84acc2a2", checked := Try.checked }
namespace Rows
def none {H : Type} : Left H := { results := [], args := [] }

/-- 'zzlaws_internal_lex_b1.FnAppendQuotedReadsBackCanonically': WHATEVER THE INPUT: true; the input reads as it did. -/
def fnAppendQuotedReadsBackCanonicallySpec : ChangeSpec := { name := "fnAppendQuotedReadsBackCanonically", fn := fun _ => fun
  | [d1, d2] => { results := [.lit (.bool true)], args := [d1, d2] }
  | _ => none }
def fnAppendQuotedReadsBackCanonicallyRow : OpenClaim := { program := "qxb6620857a", sum := "33328aa1d103e2da316515320f9848b9ee84d9860411b89d4f4092fe84acc2a2", func := "example.com/libbrace/libbrace/zzlaws_internal_lex_b1.FnAppendQuotedReadsBackCanonically", spec := "fnAppendQuotedReadsBackCanonically", apart := false }
def FnAppendQuotedReadsBackCanonicallySaid : Prop := fnAppendQuotedReadsBackCanonicallyRow.holds Try.pinned (OpenSpec.ofChange fnAppendQuotedReadsBackCanonicallySpec)

/-- ITS FALSE NEIGHBOUR: 'it returns false'. Refute it at one input. -/
def fnAppendQuotedReadsBackCanonicallyWrong : ChangeSpec := { name := "fnAppendQuotedReadsBackCanonically", fn := fun _ => fun
  | [d1, d2] => { results := [.lit (.bool false)], args := [d1, d2] }
  | _ => none }
def FnAppendQuotedReadsBackCanonicallyWrongFalsely : Prop := fnAppendQuotedReadsBackCanonicallyRow.holds Try.pinned (OpenSpec.ofChange fnAppendQuotedReadsBackCanonicallyWrong)

/-- 'zzlaws_internal_lex_b1.FnAppendQuotedSplitsAtAnyCut': WHATEVER THE INPUT: true; the input reads as it did. -/
def fnAppendQuotedSplitsAtAnyCutSpec : ChangeSpec := { name := "fnAppendQuotedSplitsAtAnyCut", fn := fun _ => fun
  | [d1, d2, d3] => { results := [.lit (.bool true)], args := [d1, d2, d3] }
  | _ => none }
def fnAppendQuotedSplitsAtAnyCutRow : OpenClaim := { program := "qxb6620857a", sum := "33328aa1d103e2da316515320f9848b9ee84d9860411b89d4f4092fe84acc2a2", func := "example.com/libbrace/libbrace/zzlaws_internal_lex_b1.FnAppendQuotedSplitsAtAnyCut", spec := "fnAppendQuotedSplitsAtAnyCut", apart := false }
def FnAppendQuotedSplitsAtAnyCutSaid : Prop := fnAppendQuotedSplitsAtAnyCutRow.holds Try.pinned (OpenSpec.ofChange fnAppendQuotedSplitsAtAnyCutSpec)

/-- ITS FALSE NEIGHBOUR: 'it returns false'. Refute it at one input. -/
def fnAppendQuotedSplitsAtAnyCutWrong : ChangeSpec := { name := "fnAppendQuotedSplitsAtAnyCut", fn := fun _ => fun
  | [d1, d2, d3] => { results := [.lit (.bool false)], args := [d1, d2, d3] }
  | _ => none }
def FnAppendQuotedSplitsAtAnyCutWrongFalsely : Prop := fnAppendQuotedSplitsAtAnyCutRow.holds Try.pinned (OpenSpec.ofChange fnAppendQuotedSplitsAtAnyCutWrong)

/-- 'zzlaws_internal_lex_b1.FnDigitValueReadsAppendQuotedHexInEitherCase': WHATEVER THE INPUT: true; the input reads as it did. -/
def fnDigitValueReadsAppendQuotedHexInEitherCaseSpec : ChangeSpec := { name := "fnDigitValueReadsAppendQuotedHexInEitherCase", fn := fun _ => fun
  | [d] => { results := [.lit (.bool true)], args := [d] }
  | _ => none }
def fnDigitValueReadsAppendQuotedHexInEitherCaseRow : OpenClaim := { program := "qxb6620857a", sum := "33328aa1d103e2da316515320f9848b9ee84d9860411b89d4f4092fe84acc2a2", func := "example.com/libbrace/libbrace/zzlaws_internal_lex_b1.FnDigitValueReadsAppendQuotedHexInEitherCase", spec := "fnDigitValueReadsAppendQuotedHexInEitherCase", apart := false }
def FnDigitValueReadsAppendQuotedHexInEitherCaseSaid : Prop := fnDigitValueReadsAppendQuotedHexInEitherCaseRow.holds Try.pinned (OpenSpec.ofChange fnDigitValueReadsAppendQuotedHexInEitherCaseSpec)

/-- ITS FALSE NEIGHBOUR: 'it returns false'. Refute it at one input. -/
def fnDigitValueReadsAppendQuotedHexInEitherCaseWrong : ChangeSpec := { name := "fnDigitValueReadsAppendQuotedHexInEitherCase", fn := fun _ => fun
  | [d] => { results := [.lit (.bool false)], args := [d] }
  | _ => none }
def FnDigitValueReadsAppendQuotedHexInEitherCaseWrongFalsely : Prop := fnDigitValueReadsAppendQuotedHexInEitherCaseRow.holds Try.pinned (OpenSpec.ofChange fnDigitValueReadsAppendQuotedHexInEitherCaseWrong)

/-- 'zzlaws_internal_lex_b1.FnDigitsJoinAtAnyCut': WHATEVER THE INPUT: true; the input reads as it did. -/
def fnDigitsJoinAtAnyCutSpec : ChangeSpec := { name := "fnDigitsJoinAtAnyCut", fn := fun _ => fun
  | [d1, d2, d3] => { results := [.lit (.bool true)], args := [d1, d2, d3] }
  | _ => none }
def fnDigitsJoinAtAnyCutRow : OpenClaim := { program := "qxb6620857a", sum := "33328aa1d103e2da316515320f9848b9ee84d9860411b89d4f4092fe84acc2a2", func := "example.com/libbrace/libbrace/zzlaws_internal_lex_b1.FnDigitsJoinAtAnyCut", spec := "fnDigitsJoinAtAnyCut", apart := false }
def FnDigitsJoinAtAnyCutSaid : Prop := fnDigitsJoinAtAnyCutRow.holds Try.pinned (OpenSpec.ofChange fnDigitsJoinAtAnyCutSpec)

/-- ITS FALSE NEIGHBOUR: 'it returns false'. Refute it at one input. -/
def fnDigitsJoinAtAnyCutWrong : ChangeSpec := { name := "fnDigitsJoinAtAnyCut", fn := fun _ => fun
  | [d1, d2, d3] => { results := [.lit (.bool false)], args := [d1, d2, d3] }
  | _ => none }
def FnDigitsJoinAtAnyCutWrongFalsely : Prop := fnDigitsJoinAtAnyCutRow.holds Try.pinned (OpenSpec.ofChange fnDigitsJoinAtAnyCutWrong)

/-- 'zzlaws_internal_lex_b1.FnDigitsMaxCutsTheRun': WHATEVER THE INPUT: true; the input reads as it did. -/
def fnDigitsMaxCutsTheRunSpec : ChangeSpec := { name := "fnDigitsMaxCutsTheRun", fn := fun _ => fun
  | [d1, d2, d3] => { results := [.lit (.bool true)], args := [d1, d2, d3] }
  | _ => none }
def fnDigitsMaxCutsTheRunRow : OpenClaim := { program := "qxb6620857a", sum := "33328aa1d103e2da316515320f9848b9ee84d9860411b89d4f4092fe84acc2a2", func := "example.com/libbrace/libbrace/zzlaws_internal_lex_b1.FnDigitsMaxCutsTheRun", spec := "fnDigitsMaxCutsTheRun", apart := false }
def FnDigitsMaxCutsTheRunSaid : Prop := fnDigitsMaxCutsTheRunRow.holds Try.pinned (OpenSpec.ofChange fnDigitsMaxCutsTheRunSpec)

/-- ITS FALSE NEIGHBOUR: 'it returns false'. Refute it at one input. -/
def fnDigitsMaxCutsTheRunWrong : ChangeSpec := { name := "fnDigitsMaxCutsTheRun", fn := fun _ => fun
  | [d1, d2, d3] => { results := [.lit (.bool false)], args := [d1, d2, d3] }
  | _ => none }
def FnDigitsMaxCutsTheRunWrongFalsely : Prop := fnDigitsMaxCutsTheRunRow.holds Try.pinned (OpenSpec.ofChange fnDigitsMaxCutsTheRunWrong)

end Rows
end Go.Proofs.Qxb6620857a
