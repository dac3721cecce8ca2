/-
  No cell of these rows narrows 'for every input' (looked for: loops, veiled, ifaces, maps, wideKeys, modest, calm, conditions, laid).
  DERIVED. THE GIVEN ROWS OF THIS SEAT. 4 by the template 'for every input the law returns true; each argument reads behind the call as it read before'; 0 by the template 'total and deterministic' (their statements: Qxb6605338aTotals.lean).
  GIVEN WITH THE SEED: the statements are not yours to turn. If you find one false, say at which input.
  Laid BY PROGRAM, IN A SANDBOX (cutbox-rows.mjs): the forced cells as the released guide's own fill.sh prints them over the translation aeacbdcd56cf264e… (all of the seat's roots in one cut). By AI agents, Wed Nov 11 2026. No macro, syntax, notation, axiom, sorry.
-/
import Derived.Test.Qxb6605338aChecked
import GoSem.Claim
import GoSem.ClaimJoined
import GoSem.ClaimMapViews
import Derived.JoinedTies
import Derived.KernelRfl
namespace Go.Proofs.Qxb6605338a
/- THE CELL 'sum', in the pinned program and in every row, IS THE sha256 OF THE DUMP (.gsa) THAT Qxb6605338aProg.lean LOADS. Nothing in Lean hashes anything: it is a label: what it is worth is what the hold of that sum in a sandbox is worth. -/
noncomputable def Try.pinned : Pinned := { name := "qxb6605338a", sum := "aeacbdcd56cf264e3ec8f0e65be12592572462370d2c82973fb2f3c6e67a13e7", checked := Try.checked }
namespace Rows
def none {H : Type} : Left H := { results := [], args := [] }

/-- 'zzlaws_root_b1.FnReceiptsExact': WHATEVER THE INPUT: true; the input reads as it did. -/
def fnReceiptsExactSpec : ChangeSpec := { name := "fnReceiptsExact", fn := fun _ => fun
  | [d] => { results := [.lit (.bool true)], args := [d] }
  | _ => none }
def fnReceiptsExactRow : OpenClaim := { program := "qxb6605338a", sum := "aeacbdcd56cf264e3ec8f0e65be12592572462370d2c82973fb2f3c6e67a13e7", func := "example.com/concordat/concordat/zzlaws_root_b1.FnReceiptsExact", spec := "fnReceiptsExact", apart := false }
def FnReceiptsExactSaid : Prop := fnReceiptsExactRow.holds Try.pinned (OpenSpec.ofChange fnReceiptsExactSpec)

/-- ITS FALSE NEIGHBOUR: 'it returns false'. Refute it at one input. -/
def fnReceiptsExactWrong : ChangeSpec := { name := "fnReceiptsExact", fn := fun _ => fun
  | [d] => { results := [.lit (.bool false)], args := [d] }
  | _ => none }
def FnReceiptsExactWrongFalsely : Prop := fnReceiptsExactRow.holds Try.pinned (OpenSpec.ofChange fnReceiptsExactWrong)

/-- 'zzlaws_root_b1.FnAllowedStatusExact': WHATEVER THE INPUT: true; the input reads as it did. -/
def fnAllowedStatusExactSpec : ChangeSpec := { name := "fnAllowedStatusExact", fn := fun _ => fun
  | [d1, d2, d3, d4, d5] => { results := [.lit (.bool true)], args := [d1, d2, d3, d4, d5] }
  | _ => none }
def fnAllowedStatusExactRow : OpenClaim := { program := "qxb6605338a", sum := "aeacbdcd56cf264e3ec8f0e65be12592572462370d2c82973fb2f3c6e67a13e7", func := "example.com/concordat/concordat/zzlaws_root_b1.FnAllowedStatusExact", spec := "fnAllowedStatusExact", apart := false }
def FnAllowedStatusExactSaid : Prop := fnAllowedStatusExactRow.holds Try.pinned (OpenSpec.ofChange fnAllowedStatusExactSpec)

/-- ITS FALSE NEIGHBOUR: 'it returns false'. Refute it at one input. -/
def fnAllowedStatusExactWrong : ChangeSpec := { name := "fnAllowedStatusExact", fn := fun _ => fun
  | [d1, d2, d3, d4, d5] => { results := [.lit (.bool false)], args := [d1, d2, d3, d4, d5] }
  | _ => none }
def FnAllowedStatusExactWrongFalsely : Prop := fnAllowedStatusExactRow.holds Try.pinned (OpenSpec.ofChange fnAllowedStatusExactWrong)

/-- 'zzlaws_root_b1.FnNaiveDecideExact': WHATEVER THE INPUT: true; the input reads as it did. -/
def fnNaiveDecideExactSpec : ChangeSpec := { name := "fnNaiveDecideExact", fn := fun _ => fun
  | [d1, d2, d3] => { results := [.lit (.bool true)], args := [d1, d2, d3] }
  | _ => none }
def fnNaiveDecideExactRow : OpenClaim := { program := "qxb6605338a", sum := "aeacbdcd56cf264e3ec8f0e65be12592572462370d2c82973fb2f3c6e67a13e7", func := "example.com/concordat/concordat/zzlaws_root_b1.FnNaiveDecideExact", spec := "fnNaiveDecideExact", apart := false }
def FnNaiveDecideExactSaid : Prop := fnNaiveDecideExactRow.holds Try.pinned (OpenSpec.ofChange fnNaiveDecideExactSpec)

/-- ITS FALSE NEIGHBOUR: 'it returns false'. Refute it at one input. -/
def fnNaiveDecideExactWrong : ChangeSpec := { name := "fnNaiveDecideExact", fn := fun _ => fun
  | [d1, d2, d3] => { results := [.lit (.bool false)], args := [d1, d2, d3] }
  | _ => none }
def FnNaiveDecideExactWrongFalsely : Prop := fnNaiveDecideExactRow.holds Try.pinned (OpenSpec.ofChange fnNaiveDecideExactWrong)

/-- 'zzlaws_root_b1.FnNaiveDecideStep': WHATEVER THE INPUT: true; the input reads as it did. -/
def fnNaiveDecideStepSpec : ChangeSpec := { name := "fnNaiveDecideStep", fn := fun _ => fun
  | [d1, d2, d3] => { results := [.lit (.bool true)], args := [d1, d2, d3] }
  | _ => none }
def fnNaiveDecideStepRow : OpenClaim := { program := "qxb6605338a", sum := "aeacbdcd56cf264e3ec8f0e65be12592572462370d2c82973fb2f3c6e67a13e7", func := "example.com/concordat/concordat/zzlaws_root_b1.FnNaiveDecideStep", spec := "fnNaiveDecideStep", apart := false }
def FnNaiveDecideStepSaid : Prop := fnNaiveDecideStepRow.holds Try.pinned (OpenSpec.ofChange fnNaiveDecideStepSpec)

/-- ITS FALSE NEIGHBOUR: 'it returns false'. Refute it at one input. -/
def fnNaiveDecideStepWrong : ChangeSpec := { name := "fnNaiveDecideStep", fn := fun _ => fun
  | [d1, d2, d3] => { results := [.lit (.bool false)], args := [d1, d2, d3] }
  | _ => none }
def FnNaiveDecideStepWrongFalsely : Prop := fnNaiveDecideStepRow.holds Try.pinned (OpenSpec.ofChange fnNaiveDecideStepWrong)

end Rows
end Go.Proofs.Qxb6605338a
