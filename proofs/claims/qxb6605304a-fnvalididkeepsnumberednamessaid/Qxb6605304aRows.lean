/-
  No cell of these rows narrows 'for every input' (looked for: loops, veiled, ifaces, maps, wideKeys, modest, calm, conditions, laid).
  DERIVED. THE GIVEN ROWS OF THIS SEAT. 3 by the template 'for every input the law returns true; each argument reads behind the call as it read before'; 0 by the template 'total and deterministic' (their statements: Qxb6605304aTotals.lean).
  GIVEN WITH THE SEED: the statements are not yours to turn. If you find one false, say at which input.
  Laid BY PROGRAM, IN A SANDBOX (cutbox-rows.mjs): the forced cells as the released guide's own fill.sh prints them over the translation c98c2c81d3f0bc73… (all of the seat's roots in one cut). By AI agents, Wed Nov 11 2026. No macro, syntax, notation, axiom, sorry.
-/
import Derived.Test.Qxb6605304aChecked
import GoSem.Claim
import GoSem.ClaimJoined
import GoSem.ClaimMapViews
import Derived.JoinedTies
import Derived.KernelRfl
namespace Go.Proofs.Qxb6605304a
/- THE CELL 'sum', in the pinned program and in every row, IS THE sha256 OF THE DUMP (.gsa) THAT Qxb6605304aProg.lean LOADS. Nothing in Lean hashes anything: it is a label: what it is worth is what the hold of that sum in a sandbox is worth. -/
noncomputable def Try.pinned : Pinned := { name := "qxb6605304a", sum := "c98c2c81d3f0bc73c57dc9a00f82b55e5e73b86cae2fe290bb3741ae4ac00d51", checked := Try.checked }
namespace Rows
def none {H : Type} : Left H := { results := [], args := [] }

/-- 'zzlaws_internal_store_b1.FnAppendDigitsReadsBackAsN': WHATEVER THE INPUT: true; the input reads as it did. -/
def fnAppendDigitsReadsBackAsNSpec : ChangeSpec := { name := "fnAppendDigitsReadsBackAsN", fn := fun _ => fun
  | [d1, d2, d3] => { results := [.lit (.bool true)], args := [d1, d2, d3] }
  | _ => none }
def fnAppendDigitsReadsBackAsNRow : OpenClaim := { program := "qxb6605304a", sum := "c98c2c81d3f0bc73c57dc9a00f82b55e5e73b86cae2fe290bb3741ae4ac00d51", func := "example.com/waymark/waymark/zzlaws_internal_store_b1.FnAppendDigitsReadsBackAsN", spec := "fnAppendDigitsReadsBackAsN", apart := false }
def FnAppendDigitsReadsBackAsNSaid : Prop := fnAppendDigitsReadsBackAsNRow.holds Try.pinned (OpenSpec.ofChange fnAppendDigitsReadsBackAsNSpec)

/-- ITS FALSE NEIGHBOUR: 'it returns false'. Refute it at one input. -/
def fnAppendDigitsReadsBackAsNWrong : ChangeSpec := { name := "fnAppendDigitsReadsBackAsN", fn := fun _ => fun
  | [d1, d2, d3] => { results := [.lit (.bool false)], args := [d1, d2, d3] }
  | _ => none }
def FnAppendDigitsReadsBackAsNWrongFalsely : Prop := fnAppendDigitsReadsBackAsNRow.holds Try.pinned (OpenSpec.ofChange fnAppendDigitsReadsBackAsNWrong)

/-- 'zzlaws_internal_store_b1.FnAppendDigitsSortLikeTheirNumbers': WHATEVER THE INPUT: true; the input reads as it did. -/
def fnAppendDigitsSortLikeTheirNumbersSpec : ChangeSpec := { name := "fnAppendDigitsSortLikeTheirNumbers", fn := fun _ => fun
  | [d1, d2, d3] => { results := [.lit (.bool true)], args := [d1, d2, d3] }
  | _ => none }
def fnAppendDigitsSortLikeTheirNumbersRow : OpenClaim := { program := "qxb6605304a", sum := "c98c2c81d3f0bc73c57dc9a00f82b55e5e73b86cae2fe290bb3741ae4ac00d51", func := "example.com/waymark/waymark/zzlaws_internal_store_b1.FnAppendDigitsSortLikeTheirNumbers", spec := "fnAppendDigitsSortLikeTheirNumbers", apart := false }
def FnAppendDigitsSortLikeTheirNumbersSaid : Prop := fnAppendDigitsSortLikeTheirNumbersRow.holds Try.pinned (OpenSpec.ofChange fnAppendDigitsSortLikeTheirNumbersSpec)

/-- ITS FALSE NEIGHBOUR: 'it returns false'. Refute it at one input. -/
def fnAppendDigitsSortLikeTheirNumbersWrong : ChangeSpec := { name := "fnAppendDigitsSortLikeTheirNumbers", fn := fun _ => fun
  | [d1, d2, d3] => { results := [.lit (.bool false)], args := [d1, d2, d3] }
  | _ => none }
def FnAppendDigitsSortLikeTheirNumbersWrongFalsely : Prop := fnAppendDigitsSortLikeTheirNumbersRow.holds Try.pinned (OpenSpec.ofChange fnAppendDigitsSortLikeTheirNumbersWrong)

/-- 'zzlaws_internal_store_b1.FnValidIDKeepsNumberedNames': WHATEVER THE INPUT: true; the input reads as it did. -/
def fnValidIDKeepsNumberedNamesSpec : ChangeSpec := { name := "fnValidIDKeepsNumberedNames", fn := fun _ => fun
  | [d1, d2, d3] => { results := [.lit (.bool true)], args := [d1, d2, d3] }
  | _ => none }
def fnValidIDKeepsNumberedNamesRow : OpenClaim := { program := "qxb6605304a", sum := "c98c2c81d3f0bc73c57dc9a00f82b55e5e73b86cae2fe290bb3741ae4ac00d51", func := "example.com/waymark/waymark/zzlaws_internal_store_b1.FnValidIDKeepsNumberedNames", spec := "fnValidIDKeepsNumberedNames", apart := false }
def FnValidIDKeepsNumberedNamesSaid : Prop := fnValidIDKeepsNumberedNamesRow.holds Try.pinned (OpenSpec.ofChange fnValidIDKeepsNumberedNamesSpec)

/-- ITS FALSE NEIGHBOUR: 'it returns false'. Refute it at one input. -/
def fnValidIDKeepsNumberedNamesWrong : ChangeSpec := { name := "fnValidIDKeepsNumberedNames", fn := fun _ => fun
  | [d1, d2, d3] => { results := [.lit (.bool false)], args := [d1, d2, d3] }
  | _ => none }
def FnValidIDKeepsNumberedNamesWrongFalsely : Prop := fnValidIDKeepsNumberedNamesRow.holds Try.pinned (OpenSpec.ofChange fnValidIDKeepsNumberedNamesWrong)

end Rows
end Go.Proofs.Qxb6605304a
