/-
  No cell of these rows narrows 'for every input' (looked for: loops, veiled, ifaces, maps, wideKeys, modest, calm, conditions, laid).
  DERIVED. THE GIVEN ROWS OF THIS SEAT. 2 by the template 'for every input the law returns true; each argument reads behind the call as it read before'; 0 by the template 'total and deterministic' (their statements: Qxb6616071aTotals.lean).
  GIVEN WITH THE SEED: the statements are not yours to turn. If you find one false, say at which input.
  Laid BY PROGRAM, IN A SANDBOX (cutbox-rows.mjs): the forced cells as the released guide's own fill.sh prints them over the translation 02f094a5f0ddeae3… (all of the seat's roots in one cut). By AI agents, Wed Nov 11 2026. No macro, syntax, notation, axiom, sorry.
-/
import Derived.Test.Qxb6616071aChecked
import GoSem.Claim
import GoSem.ClaimJoined
import GoSem.ClaimMapViews
import Derived.JoinedTies
import Derived.KernelRfl
namespace Go.Proofs.Qxb6616071a
/- THE CELL 'sum', in the pinned program and in every row, IS THE sha256 OF THE DUMP (.gsa) THAT Qxb6616071aProg.lean LOADS. Nothing in Lean hashes anything: it is a label: what it is worth is what the hold of that sum in a sandbox is worth. -/
noncomputable def Try.pinned : Pinned := { name := "qxb6616071a", sum := "02f094a5f0ddeae3386c7e809c043038a51b49c12eb4e45ea9493ccbb77b64d8", checked := Try.checked }
namespace Rows
def none {H : Type} : Left H := { results := [], args := [] }

/-- 'zzlaws_pkg_book_b1.FnOutgrownOnceChangedPassesTwiceItsCountPlusBase': WHATEVER THE INPUT: true; the input reads as it did. -/
def fnOutgrownOnceChangedPassesTwiceItsCountPlusBaseSpec : ChangeSpec := { name := "fnOutgrownOnceChangedPassesTwiceItsCountPlusBase", fn := fun _ => fun
  | [d1, d2, d3, d4, d5, d6] => { results := [.lit (.bool true)], args := [d1, d2, d3, d4, d5, d6] }
  | _ => none }
def fnOutgrownOnceChangedPassesTwiceItsCountPlusBaseRow : OpenClaim := { program := "qxb6616071a", sum := "02f094a5f0ddeae3386c7e809c043038a51b49c12eb4e45ea9493ccbb77b64d8", func := "example.com/tenorline/tenorline/zzlaws_pkg_book_b1.FnOutgrownOnceChangedPassesTwiceItsCountPlusBase", spec := "fnOutgrownOnceChangedPassesTwiceItsCountPlusBase", apart := false }
def FnOutgrownOnceChangedPassesTwiceItsCountPlusBaseSaid : Prop := fnOutgrownOnceChangedPassesTwiceItsCountPlusBaseRow.holds Try.pinned (OpenSpec.ofChange fnOutgrownOnceChangedPassesTwiceItsCountPlusBaseSpec)

/-- ITS FALSE NEIGHBOUR: 'it returns false'. Refute it at one input. -/
def fnOutgrownOnceChangedPassesTwiceItsCountPlusBaseWrong : ChangeSpec := { name := "fnOutgrownOnceChangedPassesTwiceItsCountPlusBase", fn := fun _ => fun
  | [d1, d2, d3, d4, d5, d6] => { results := [.lit (.bool false)], args := [d1, d2, d3, d4, d5, d6] }
  | _ => none }
def FnOutgrownOnceChangedPassesTwiceItsCountPlusBaseWrongFalsely : Prop := fnOutgrownOnceChangedPassesTwiceItsCountPlusBaseRow.holds Try.pinned (OpenSpec.ofChange fnOutgrownOnceChangedPassesTwiceItsCountPlusBaseWrong)

/-- 'zzlaws_pkg_book_b1.FnOutgrownUnderStricterSettingsIsOutgrownUnderLooser': WHATEVER THE INPUT: true; the input reads as it did. -/
def fnOutgrownUnderStricterSettingsIsOutgrownUnderLooserSpec : ChangeSpec := { name := "fnOutgrownUnderStricterSettingsIsOutgrownUnderLooser", fn := fun _ => fun
  | [d1, d2, d3, d4, d5, d6, d7, d8] => { results := [.lit (.bool true)], args := [d1, d2, d3, d4, d5, d6, d7, d8] }
  | _ => none }
def fnOutgrownUnderStricterSettingsIsOutgrownUnderLooserRow : OpenClaim := { program := "qxb6616071a", sum := "02f094a5f0ddeae3386c7e809c043038a51b49c12eb4e45ea9493ccbb77b64d8", func := "example.com/tenorline/tenorline/zzlaws_pkg_book_b1.FnOutgrownUnderStricterSettingsIsOutgrownUnderLooser", spec := "fnOutgrownUnderStricterSettingsIsOutgrownUnderLooser", apart := false }
def FnOutgrownUnderStricterSettingsIsOutgrownUnderLooserSaid : Prop := fnOutgrownUnderStricterSettingsIsOutgrownUnderLooserRow.holds Try.pinned (OpenSpec.ofChange fnOutgrownUnderStricterSettingsIsOutgrownUnderLooserSpec)

/-- ITS FALSE NEIGHBOUR: 'it returns false'. Refute it at one input. -/
def fnOutgrownUnderStricterSettingsIsOutgrownUnderLooserWrong : ChangeSpec := { name := "fnOutgrownUnderStricterSettingsIsOutgrownUnderLooser", fn := fun _ => fun
  | [d1, d2, d3, d4, d5, d6, d7, d8] => { results := [.lit (.bool false)], args := [d1, d2, d3, d4, d5, d6, d7, d8] }
  | _ => none }
def FnOutgrownUnderStricterSettingsIsOutgrownUnderLooserWrongFalsely : Prop := fnOutgrownUnderStricterSettingsIsOutgrownUnderLooserRow.holds Try.pinned (OpenSpec.ofChange fnOutgrownUnderStricterSettingsIsOutgrownUnderLooserWrong)

end Rows
end Go.Proofs.Qxb6616071a
