/-
  No cell of these rows narrows 'for every input' (looked for: loops, veiled, ifaces, maps, wideKeys, modest, calm, conditions, laid).
  DERIVED. THE GIVEN ROWS OF THIS SEAT. 2 by the template 'for every input the law returns true; each argument reads behind the call as it read before'; 0 by the template 'total and deterministic' (their statements: Qxb6617394aTotals.lean).
  GIVEN WITH THE SEED: the statements are not yours to turn. If you find one false, say at which input.
  Laid BY PROGRAM, IN A SANDBOX (cutbox-rows.mjs): the forced cells as the released guide's own fill.sh prints them over the translation c6c485cf8da18631… (all of the seat's roots in one cut). By AI agents, Wed Nov 11 2026. No macro, syntax, notation, axiom, sorry.
-/
import Derived.Test.Qxb6617394aChecked
import GoSem.Claim
import GoSem.ClaimJoined
import GoSem.ClaimMapViews
import Derived.JoinedTies
import Derived.KernelRfl
namespace Go.Proofs.Qxb6617394a
/- THE CELL 'sum', in the pinned program and in every row, IS THE sha256 OF THE DUMP (.gsa) THAT Qxb6617394aProg.lean LOADS. Nothing in Lean hashes anything: it is a label: what it is worth is what the hold of that sum in a sandbox is worth. -/
noncomputable def Try.pinned : Pinned := { name := "qxb6617394a", sum := "c6c485cf8da18631e53747be07edfaf249fedffea007b9dd940ebaa89e8a1165", checked := Try.checked }
namespace Rows
def none {H : Type} : Left H := { results := [], args := [] }

/-- 'zzlaws_root_b1.FnEnclosedLenMatchesEscapeParityModel': WHATEVER THE INPUT: true; the input reads as it did. -/
def fnEnclosedLenMatchesEscapeParityModelSpec : ChangeSpec := { name := "fnEnclosedLenMatchesEscapeParityModel", fn := fun _ => fun
  | [d] => { results := [.lit (.bool true)], args := [d] }
  | _ => none }
def fnEnclosedLenMatchesEscapeParityModelRow : OpenClaim := { program := "qxb6617394a", sum := "c6c485cf8da18631e53747be07edfaf249fedffea007b9dd940ebaa89e8a1165", func := "example.com/bouncewright/bouncewright/zzlaws_root_b1.FnEnclosedLenMatchesEscapeParityModel", spec := "fnEnclosedLenMatchesEscapeParityModel", apart := false }
def FnEnclosedLenMatchesEscapeParityModelSaid : Prop := fnEnclosedLenMatchesEscapeParityModelRow.holds Try.pinned (OpenSpec.ofChange fnEnclosedLenMatchesEscapeParityModelSpec)

/-- ITS FALSE NEIGHBOUR: 'it returns false'. Refute it at one input. -/
def fnEnclosedLenMatchesEscapeParityModelWrong : ChangeSpec := { name := "fnEnclosedLenMatchesEscapeParityModel", fn := fun _ => fun
  | [d] => { results := [.lit (.bool false)], args := [d] }
  | _ => none }
def FnEnclosedLenMatchesEscapeParityModelWrongFalsely : Prop := fnEnclosedLenMatchesEscapeParityModelRow.holds Try.pinned (OpenSpec.ofChange fnEnclosedLenMatchesEscapeParityModelWrong)

/-- 'zzlaws_root_b1.FnEnclosedLenClosesOnItsCloserIgnoresTheTailAndNests': WHATEVER THE INPUT: true; the input reads as it did. -/
def fnEnclosedLenClosesOnItsCloserIgnoresTheTailAndNestsSpec : ChangeSpec := { name := "fnEnclosedLenClosesOnItsCloserIgnoresTheTailAndNests", fn := fun _ => fun
  | [d1, d2] => { results := [.lit (.bool true)], args := [d1, d2] }
  | _ => none }
def fnEnclosedLenClosesOnItsCloserIgnoresTheTailAndNestsRow : OpenClaim := { program := "qxb6617394a", sum := "c6c485cf8da18631e53747be07edfaf249fedffea007b9dd940ebaa89e8a1165", func := "example.com/bouncewright/bouncewright/zzlaws_root_b1.FnEnclosedLenClosesOnItsCloserIgnoresTheTailAndNests", spec := "fnEnclosedLenClosesOnItsCloserIgnoresTheTailAndNests", apart := false }
def FnEnclosedLenClosesOnItsCloserIgnoresTheTailAndNestsSaid : Prop := fnEnclosedLenClosesOnItsCloserIgnoresTheTailAndNestsRow.holds Try.pinned (OpenSpec.ofChange fnEnclosedLenClosesOnItsCloserIgnoresTheTailAndNestsSpec)

/-- ITS FALSE NEIGHBOUR: 'it returns false'. Refute it at one input. -/
def fnEnclosedLenClosesOnItsCloserIgnoresTheTailAndNestsWrong : ChangeSpec := { name := "fnEnclosedLenClosesOnItsCloserIgnoresTheTailAndNests", fn := fun _ => fun
  | [d1, d2] => { results := [.lit (.bool false)], args := [d1, d2] }
  | _ => none }
def FnEnclosedLenClosesOnItsCloserIgnoresTheTailAndNestsWrongFalsely : Prop := fnEnclosedLenClosesOnItsCloserIgnoresTheTailAndNestsRow.holds Try.pinned (OpenSpec.ofChange fnEnclosedLenClosesOnItsCloserIgnoresTheTailAndNestsWrong)

end Rows
end Go.Proofs.Qxb6617394a
