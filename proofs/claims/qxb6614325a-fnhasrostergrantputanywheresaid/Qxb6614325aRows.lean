/-
  No cell of these rows narrows 'for every input' (looked for: loops, veiled, ifaces, maps, wideKeys, modest, calm, conditions, laid).
  DERIVED. THE GIVEN ROWS OF THIS SEAT. 1 by the template 'for every input the law returns true; each argument reads behind the call as it read before'; 0 by the template 'total and deterministic' (their statements: Qxb6614325aTotals.lean).
  GIVEN WITH THE SEED: the statements are not yours to turn. If you find one false, say at which input.
  Laid BY PROGRAM, IN A SANDBOX (cutbox-rows.mjs): the forced cells as the released guide's own fill.sh prints them over the translation 76f412055124e71f… (all of the seat's roots in one cut). By AI agents, Wed Nov 11 2026. No macro, syntax, notation, axiom, sorry.
-/
import Derived.Test.Qxb6614325aChecked
import GoSem.Claim
import GoSem.ClaimJoined
import GoSem.ClaimMapViews
import Derived.JoinedTies
import Derived.KernelRfl
namespace Go.Proofs.Qxb6614325a
/- THE CELL 'sum', in the pinned program and in every row, IS THE sha256 OF THE DUMP (.gsa) THAT Qxb6614325aProg.lean LOADS. Nothing in Lean hashes anything: it is a label: what it is worth is what the hold of that sum in a sandbox is worth. -/
noncomputable def Try.pinned : Pinned := { name := "qxb6614325a", sum := "76f412055124e71f3c4db2d4b030d53756df46079cb6430c39aaf707e5cb837f", checked := Try.checked }
namespace Rows
def none {H : Type} : Left H := { results := [], args := [] }

/-- 'zzlaws_pkg_plan_b1.FnHasRosterGrantPutAnywhere': WHATEVER THE INPUT: true; the input reads as it did. -/
def fnHasRosterGrantPutAnywhereSpec : ChangeSpec := { name := "fnHasRosterGrantPutAnywhere", fn := fun _ => fun
  | [d1, d2, d3] => { results := [.lit (.bool true)], args := [d1, d2, d3] }
  | _ => none }
def fnHasRosterGrantPutAnywhereRow : OpenClaim := { program := "qxb6614325a", sum := "76f412055124e71f3c4db2d4b030d53756df46079cb6430c39aaf707e5cb837f", func := "example.com/vestline/vestline/zzlaws_pkg_plan_b1.FnHasRosterGrantPutAnywhere", spec := "fnHasRosterGrantPutAnywhere", unfollowed := true, recurses := true, apart := false }
def FnHasRosterGrantPutAnywhereSaid : Prop := fnHasRosterGrantPutAnywhereRow.holds Try.pinned (OpenSpec.ofChange fnHasRosterGrantPutAnywhereSpec)

/-- ITS FALSE NEIGHBOUR: 'it returns false'. Refute it at one input. -/
def fnHasRosterGrantPutAnywhereWrong : ChangeSpec := { name := "fnHasRosterGrantPutAnywhere", fn := fun _ => fun
  | [d1, d2, d3] => { results := [.lit (.bool false)], args := [d1, d2, d3] }
  | _ => none }
def FnHasRosterGrantPutAnywhereWrongFalsely : Prop := fnHasRosterGrantPutAnywhereRow.holds Try.pinned (OpenSpec.ofChange fnHasRosterGrantPutAnywhereWrong)

end Rows
end Go.Proofs.Qxb6614325a
