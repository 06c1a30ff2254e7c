/-
  No cell of these rows narrows 'for every input' (looked for: loops, veiled, ifaces, maps, wideKeys, modest, calm, conditions, laid).
  DERIVED. THE GIVEN ROWS OF THIS SEAT. 2 by the template 'for every input the law returns true; each argument reads behind the call as it read before'; 0 by the template 'total and deterministic' (their statements: Qxb6617667aTotals.lean).
  GIVEN WITH THE SEED: the statements are not yours to turn. If you find one false, say at which input.
  Laid BY PROGRAM, IN A SANDBOX (cutbox-rows.mjs): the forced cells as the released guide's own fill.sh prints them over the translation 3aa975be965cd7fd… (all of the seat's roots in one cut). By AI agents, Wed Nov 11 2026. No macro, syntax, notation, axiom, sorry.
-/
import Derived.Test.Qxb6617667aChecked
import GoSem.Claim
import GoSem.ClaimJoined
import GoSem.ClaimMapViews
import Derived.JoinedTies
import Derived.KernelRfl
namespace Go.Proofs.Qxb6617667a
/- THE CELL 'sum', in the pinned program and in every row, IS THE sha256 OF THE DUMP (.gsa) THAT Qxb6617667aProg.lean LOADS. Nothing in Lean hashes anything: it is a label: what it is worth is what the hold of that sum in a sandbox is worth. -/
noncomputable def Try.pinned : Pinned := { name := "qxb6617667a", sum := "3aa975be965cd7fdb1cf3f80ee0aa838a31165f80a2ba7ce7ab80c948bcb7e7e", checked := Try.checked }
namespace Rows
def none {H : Type} : Left H := { results := [], args := [] }

/-- 'zzlaws_root_b1.FnCenturySetIsCenturyOfItsYear': WHATEVER THE INPUT: true; the input reads as it did. -/
def fnCenturySetIsCenturyOfItsYearSpec : ChangeSpec := { name := "fnCenturySetIsCenturyOfItsYear", fn := fun _ => fun
  | [d1, d2, d3, d4, d5, d6, d7, d8] => { results := [.lit (.bool true)], args := [d1, d2, d3, d4, d5, d6, d7, d8] }
  | _ => none }
def fnCenturySetIsCenturyOfItsYearRow : OpenClaim := { program := "qxb6617667a", sum := "3aa975be965cd7fdb1cf3f80ee0aa838a31165f80a2ba7ce7ab80c948bcb7e7e", func := "example.com/paschalion/paschalion/zzlaws_root_b1.FnCenturySetIsCenturyOfItsYear", spec := "fnCenturySetIsCenturyOfItsYear", apart := false }
def FnCenturySetIsCenturyOfItsYearSaid : Prop := fnCenturySetIsCenturyOfItsYearRow.holds Try.pinned (OpenSpec.ofChange fnCenturySetIsCenturyOfItsYearSpec)

/-- ITS FALSE NEIGHBOUR: 'it returns false'. Refute it at one input. -/
def fnCenturySetIsCenturyOfItsYearWrong : ChangeSpec := { name := "fnCenturySetIsCenturyOfItsYear", fn := fun _ => fun
  | [d1, d2, d3, d4, d5, d6, d7, d8] => { results := [.lit (.bool false)], args := [d1, d2, d3, d4, d5, d6, d7, d8] }
  | _ => none }
def FnCenturySetIsCenturyOfItsYearWrongFalsely : Prop := fnCenturySetIsCenturyOfItsYearRow.holds Try.pinned (OpenSpec.ofChange fnCenturySetIsCenturyOfItsYearWrong)

/-- 'zzlaws_root_b1.FnCenturySetNextCenturyStep': WHATEVER THE INPUT: true; the input reads as it did. -/
def fnCenturySetNextCenturyStepSpec : ChangeSpec := { name := "fnCenturySetNextCenturyStep", fn := fun _ => fun
  | [d1, d2, d3, d4, d5, d6, d7] => { results := [.lit (.bool true)], args := [d1, d2, d3, d4, d5, d6, d7] }
  | _ => none }
def fnCenturySetNextCenturyStepRow : OpenClaim := { program := "qxb6617667a", sum := "3aa975be965cd7fdb1cf3f80ee0aa838a31165f80a2ba7ce7ab80c948bcb7e7e", func := "example.com/paschalion/paschalion/zzlaws_root_b1.FnCenturySetNextCenturyStep", spec := "fnCenturySetNextCenturyStep", apart := false }
def FnCenturySetNextCenturyStepSaid : Prop := fnCenturySetNextCenturyStepRow.holds Try.pinned (OpenSpec.ofChange fnCenturySetNextCenturyStepSpec)

/-- ITS FALSE NEIGHBOUR: 'it returns false'. Refute it at one input. -/
def fnCenturySetNextCenturyStepWrong : ChangeSpec := { name := "fnCenturySetNextCenturyStep", fn := fun _ => fun
  | [d1, d2, d3, d4, d5, d6, d7] => { results := [.lit (.bool false)], args := [d1, d2, d3, d4, d5, d6, d7] }
  | _ => none }
def FnCenturySetNextCenturyStepWrongFalsely : Prop := fnCenturySetNextCenturyStepRow.holds Try.pinned (OpenSpec.ofChange fnCenturySetNextCenturyStepWrong)

end Rows
end Go.Proofs.Qxb6617667a
