/-
  No cell of these rows narrows 'for every input' (looked for: loops, veiled, ifaces, maps, wideKeys, modest, calm, conditions, laid).
  DERIVED. THE GIVEN ROWS OF THIS SEAT. 2 by the template 'for every input the law returns true; each argument reads behind the call as it read before'; 0 by the template 'total and deterministic' (their statements: Qxb6003639aTotals.lean).
  GIVEN WITH THE SEED: the statements are not yours to turn. If you find one false, say at which input.
  Laid BY PROGRAM, IN A SANDBOX (cutbox-rows.mjs): the forced cells as the released guide's own fill.sh prints them over the translation f77401e5af034211… (all of the seat's roots in one cut). By AI agents, Wed Nov 11 2026. No macro, syntax, notation, axiom, sorry.
-/
import Derived.Test.Qxb6003639aChecked
import GoSem.Claim
import GoSem.ClaimJoined
import GoSem.ClaimMapViews
import Derived.JoinedTies
import Derived.KernelRfl
namespace Go.Proofs.Qxb6003639a
/- THE CELL 'sum', in the pinned program and in every row, IS THE sha256 OF THE DUMP (.gsa) THAT Qxb6003639aProg.lean LOADS. Nothing in Lean hashes anything: it is a label: what it is worth is what the hold of that sum in a sandbox is worth. -/
noncomputable def Try.pinned : Pinned := { name := "qxb6003639a", sum := "f77401e5af0342116cccb43924e7ce31d8bdc1bdb4d0a8abe07ad9b09a070ee5", checked := Try.checked }
namespace Rows
def none {H : Type} : Left H := { results := [], args := [] }

/-- 'zzlaws_internal_uuidv7_b1.FnValidMatchesGroupModel': WHATEVER THE INPUT: true; the input reads as it did. -/
def fnValidMatchesGroupModelSpec : ChangeSpec := { name := "fnValidMatchesGroupModel", fn := fun _ => fun
  | [d] => { results := [.lit (.bool true)], args := [d] }
  | _ => none }
def fnValidMatchesGroupModelRow : OpenClaim := { program := "qxb6003639a", sum := "f77401e5af0342116cccb43924e7ce31d8bdc1bdb4d0a8abe07ad9b09a070ee5", func := "example.com/jobwire/jobwire/zzlaws_internal_uuidv7_b1.FnValidMatchesGroupModel", spec := "fnValidMatchesGroupModel", apart := false }
def FnValidMatchesGroupModelSaid : Prop := fnValidMatchesGroupModelRow.holds Try.pinned (OpenSpec.ofChange fnValidMatchesGroupModelSpec)

/-- ITS FALSE NEIGHBOUR: 'it returns false'. Refute it at one input. -/
def fnValidMatchesGroupModelWrong : ChangeSpec := { name := "fnValidMatchesGroupModel", fn := fun _ => fun
  | [d] => { results := [.lit (.bool false)], args := [d] }
  | _ => none }
def FnValidMatchesGroupModelWrongFalsely : Prop := fnValidMatchesGroupModelRow.holds Try.pinned (OpenSpec.ofChange fnValidMatchesGroupModelWrong)

/-- 'zzlaws_internal_uuidv7_b1.FnValidIsPositionLocal': WHATEVER THE INPUT: true; the input reads as it did. -/
def fnValidIsPositionLocalSpec : ChangeSpec := { name := "fnValidIsPositionLocal", fn := fun _ => fun
  | [d1, d2, d3] => { results := [.lit (.bool true)], args := [d1, d2, d3] }
  | _ => none }
def fnValidIsPositionLocalRow : OpenClaim := { program := "qxb6003639a", sum := "f77401e5af0342116cccb43924e7ce31d8bdc1bdb4d0a8abe07ad9b09a070ee5", func := "example.com/jobwire/jobwire/zzlaws_internal_uuidv7_b1.FnValidIsPositionLocal", spec := "fnValidIsPositionLocal", apart := false }
def FnValidIsPositionLocalSaid : Prop := fnValidIsPositionLocalRow.holds Try.pinned (OpenSpec.ofChange fnValidIsPositionLocalSpec)

/-- ITS FALSE NEIGHBOUR: 'it returns false'. Refute it at one input. -/
def fnValidIsPositionLocalWrong : ChangeSpec := { name := "fnValidIsPositionLocal", fn := fun _ => fun
  | [d1, d2, d3] => { results := [.lit (.bool false)], args := [d1, d2, d3] }
  | _ => none }
def FnValidIsPositionLocalWrongFalsely : Prop := fnValidIsPositionLocalRow.holds Try.pinned (OpenSpec.ofChange fnValidIsPositionLocalWrong)

end Rows
end Go.Proofs.Qxb6003639a
