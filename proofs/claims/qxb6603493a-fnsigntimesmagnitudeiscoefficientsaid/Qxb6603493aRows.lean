/-
  No cell of these rows narrows 'for every input' (looked for: loops, veiled, ifaces, maps, wideKeys, modest, calm, conditions, laid).
  DERIVED. THE GIVEN ROWS OF THIS SEAT. 1 by the template 'for every input the law returns true; each argument reads behind the call as it read before'; 0 by the template 'total and deterministic' (their statements: Qxb6603493aTotals.lean).
  GIVEN WITH THE SEED: the statements are not yours to turn. If you find one false, say at which input.
  Laid BY PROGRAM, IN A SANDBOX (cutbox-rows.mjs): the forced cells as the released guide's own fill.sh prints them over the translation 2ebbfe12a6e88d62… (all of the seat's roots in one cut). By AI agents, Wed Nov 11 2026. No macro, syntax, notation, axiom, sorry.
-/
import Derived.Test.Qxb6603493aChecked
import GoSem.Claim
import GoSem.ClaimJoined
import GoSem.ClaimMapViews
import Derived.JoinedTies
import Derived.KernelRfl
namespace Go.Proofs.Qxb6603493a
/- THE CELL 'sum', in the pinned program and in every row, IS THE sha256 OF THE DUMP (.gsa) THAT Qxb6603493aProg.lean LOADS. Nothing in Lean hashes anything: it is a label: what it is worth is what the hold of that sum in a sandbox is worth. -/
noncomputable def Try.pinned : Pinned := { name := "qxb6603493a", sum := "2ebbfe12a6e88d627ddc2161e6e8f8f0324aafc6904061a4e1faf449c2dd401f", checked := Try.checked }
namespace Rows
def none {H : Type} : Left H := { results := [], args := [] }

/-- 'zzlaws_root_b1.FnSignTimesMagnitudeIsCoefficient': WHATEVER THE INPUT: true; the input reads as it did. -/
def fnSignTimesMagnitudeIsCoefficientSpec : ChangeSpec := { name := "fnSignTimesMagnitudeIsCoefficient", fn := fun _ => fun
  | [d1, d2] => { results := [.lit (.bool true)], args := [d1, d2] }
  | _ => none }
def fnSignTimesMagnitudeIsCoefficientRow : OpenClaim := { program := "qxb6603493a", sum := "2ebbfe12a6e88d627ddc2161e6e8f8f0324aafc6904061a4e1faf449c2dd401f", func := "example.com/zhaomu/zhaomu/zzlaws_root_b1.FnSignTimesMagnitudeIsCoefficient", spec := "fnSignTimesMagnitudeIsCoefficient", apart := false }
def FnSignTimesMagnitudeIsCoefficientSaid : Prop := fnSignTimesMagnitudeIsCoefficientRow.holds Try.pinned (OpenSpec.ofChange fnSignTimesMagnitudeIsCoefficientSpec)

/-- ITS FALSE NEIGHBOUR: 'it returns false'. Refute it at one input. -/
def fnSignTimesMagnitudeIsCoefficientWrong : ChangeSpec := { name := "fnSignTimesMagnitudeIsCoefficient", fn := fun _ => fun
  | [d1, d2] => { results := [.lit (.bool false)], args := [d1, d2] }
  | _ => none }
def FnSignTimesMagnitudeIsCoefficientWrongFalsely : Prop := fnSignTimesMagnitudeIsCoefficientRow.holds Try.pinned (OpenSpec.ofChange fnSignTimesMagnitudeIsCoefficientWrong)

end Rows
end Go.Proofs.Qxb6603493a
