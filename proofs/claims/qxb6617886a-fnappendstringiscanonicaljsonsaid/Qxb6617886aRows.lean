/-
  No cell of these rows narrows 'for every input' (looked for: loops, veiled, ifaces, maps, wideKeys, modest, calm, conditions, laid).
  DERIVED. THE GIVEN ROWS OF THIS SEAT. 2 by the template 'for every input the law returns true; each argument reads behind the call as it read before'; 0 by the template 'total and deterministic' (their statements: Qxb6617886aTotals.lean).
  GIVEN WITH THE SEED: the statements are not yours to turn. If you find one false, say at which input.
  Laid BY PROGRAM, IN A SANDBOX (cutbox-rows.mjs): the forced cells as the released guide's own fill.sh prints them over the translation b3ce6955baba836a… (all of the seat's roots in one cut). By AI agents, Wed Nov 11 2026. No macro, syntax, notation, axiom, sorry.
-/
import Derived.Test.Qxb6617886aChecked
import GoSem.Claim
import GoSem.ClaimJoined
import GoSem.ClaimMapViews
import Derived.JoinedTies
import Derived.KernelRfl
namespace Go.Proofs.Qxb6617886a
/- THE CELL 'sum', in the pinned program and in every row, IS THE sha256 OF THE DUMP (.gsa) THAT Qxb6617886aProg.lean LOADS. Nothing in Lean hashes anything: it is a label: what it is worth is what the hold of that sum in a sandbox is worth. -/
noncomputable def Try.pinned : Pinned := { name := "qxb6617886a", sum := "b3ce6955baba836ab6c7324a83bdc252318b93f80a87e442e1a5d086904e697c", checked := Try.checked }
namespace Rows
def none {H : Type} : Left H := { results := [], args := [] }

/-- 'zzlaws_pkg_normalise_b1.FnAppendStringIsCanonicalJSON': WHATEVER THE INPUT: true; the input reads as it did. -/
def fnAppendStringIsCanonicalJSONSpec : ChangeSpec := { name := "fnAppendStringIsCanonicalJSON", fn := fun _ => fun
  | [d1, d2] => { results := [.lit (.bool true)], args := [d1, d2] }
  | _ => none }
def fnAppendStringIsCanonicalJSONRow : OpenClaim := { program := "qxb6617886a", sum := "b3ce6955baba836ab6c7324a83bdc252318b93f80a87e442e1a5d086904e697c", func := "example.com/sealwright/sealwright/zzlaws_pkg_normalise_b1.FnAppendStringIsCanonicalJSON", spec := "fnAppendStringIsCanonicalJSON", apart := false }
def FnAppendStringIsCanonicalJSONSaid : Prop := fnAppendStringIsCanonicalJSONRow.holds Try.pinned (OpenSpec.ofChange fnAppendStringIsCanonicalJSONSpec)

/-- ITS FALSE NEIGHBOUR: 'it returns false'. Refute it at one input. -/
def fnAppendStringIsCanonicalJSONWrong : ChangeSpec := { name := "fnAppendStringIsCanonicalJSON", fn := fun _ => fun
  | [d1, d2] => { results := [.lit (.bool false)], args := [d1, d2] }
  | _ => none }
def FnAppendStringIsCanonicalJSONWrongFalsely : Prop := fnAppendStringIsCanonicalJSONRow.holds Try.pinned (OpenSpec.ofChange fnAppendStringIsCanonicalJSONWrong)

/-- 'zzlaws_pkg_normalise_b1.FnAppendStringSplitsAtAnyCut': WHATEVER THE INPUT: true; the input reads as it did. -/
def fnAppendStringSplitsAtAnyCutSpec : ChangeSpec := { name := "fnAppendStringSplitsAtAnyCut", fn := fun _ => fun
  | [d1, d2, d3] => { results := [.lit (.bool true)], args := [d1, d2, d3] }
  | _ => none }
def fnAppendStringSplitsAtAnyCutRow : OpenClaim := { program := "qxb6617886a", sum := "b3ce6955baba836ab6c7324a83bdc252318b93f80a87e442e1a5d086904e697c", func := "example.com/sealwright/sealwright/zzlaws_pkg_normalise_b1.FnAppendStringSplitsAtAnyCut", spec := "fnAppendStringSplitsAtAnyCut", apart := false }
def FnAppendStringSplitsAtAnyCutSaid : Prop := fnAppendStringSplitsAtAnyCutRow.holds Try.pinned (OpenSpec.ofChange fnAppendStringSplitsAtAnyCutSpec)

/-- ITS FALSE NEIGHBOUR: 'it returns false'. Refute it at one input. -/
def fnAppendStringSplitsAtAnyCutWrong : ChangeSpec := { name := "fnAppendStringSplitsAtAnyCut", fn := fun _ => fun
  | [d1, d2, d3] => { results := [.lit (.bool false)], args := [d1, d2, d3] }
  | _ => none }
def FnAppendStringSplitsAtAnyCutWrongFalsely : Prop := fnAppendStringSplitsAtAnyCutRow.holds Try.pinned (OpenSpec.ofChange fnAppendStringSplitsAtAnyCutWrong)

end Rows
end Go.Proofs.Qxb6617886a
