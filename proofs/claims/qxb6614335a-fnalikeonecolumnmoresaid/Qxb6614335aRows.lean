/-
  No cell of these rows narrows 'for every input' (looked for: loops, veiled, ifaces, maps, wideKeys, modest, calm, conditions, laid).
  DERIVED. THE GIVEN ROWS OF THIS SEAT. 2 by the template 'for every input the law returns true; each argument reads behind the call as it read before'; 0 by the template 'total and deterministic' (their statements: Qxb6614335aTotals.lean).
  GIVEN WITH THE SEED: the statements are not yours to turn. If you find one false, say at which input.
  Laid BY PROGRAM, IN A SANDBOX (cutbox-rows.mjs): the forced cells as the released guide's own fill.sh prints them over the translation b0016c0e8f264c24… (all of the seat's roots in one cut). By AI agents, Wed Nov 11 2026. No macro, syntax, notation, axiom, sorry.
-/
import Derived.Test.Qxb6614335aChecked
import GoSem.Claim
import GoSem.ClaimJoined
import GoSem.ClaimMapViews
import Derived.JoinedTies
import Derived.KernelRfl
namespace Go.Proofs.Qxb6614335a
/- THE CELL 'sum', in the pinned program and in every row, IS THE sha256 OF THE DUMP (.gsa) THAT Qxb6614335aProg.lean LOADS. Nothing in Lean hashes anything: it is a label: what it is worth is what the hold of that sum in a sandbox is worth. -/
noncomputable def Try.pinned : Pinned := { name := "qxb6614335a", sum := "b0016c0e8f264c24362bcb9e453fea1dcf0542db125f69c90194653532890703", checked := Try.checked }
namespace Rows
def none {H : Type} : Left H := { results := [], args := [] }

/-- 'zzlaws_holding_b1.FnAlikeOneColumnMore': WHATEVER THE INPUT: true; the input reads as it did. -/
def fnAlikeOneColumnMoreSpec : ChangeSpec := { name := "fnAlikeOneColumnMore", fn := fun _ => fun
  | [d1, d2, d3, d4, d5, d6, d7] => { results := [.lit (.bool true)], args := [d1, d2, d3, d4, d5, d6, d7] }
  | _ => none }
def fnAlikeOneColumnMoreRow : OpenClaim := { program := "qxb6614335a", sum := "b0016c0e8f264c24362bcb9e453fea1dcf0542db125f69c90194653532890703", func := "example.com/fundwarden/fundwarden/zzlaws_holding_b1.FnAlikeOneColumnMore", spec := "fnAlikeOneColumnMore", apart := false }
def FnAlikeOneColumnMoreSaid : Prop := fnAlikeOneColumnMoreRow.holds Try.pinned (OpenSpec.ofChange fnAlikeOneColumnMoreSpec)

/-- ITS FALSE NEIGHBOUR: 'it returns false'. Refute it at one input. -/
def fnAlikeOneColumnMoreWrong : ChangeSpec := { name := "fnAlikeOneColumnMore", fn := fun _ => fun
  | [d1, d2, d3, d4, d5, d6, d7] => { results := [.lit (.bool false)], args := [d1, d2, d3, d4, d5, d6, d7] }
  | _ => none }
def FnAlikeOneColumnMoreWrongFalsely : Prop := fnAlikeOneColumnMoreRow.holds Try.pinned (OpenSpec.ofChange fnAlikeOneColumnMoreWrong)

/-- 'zzlaws_holding_b1.FnAlikeBlindToOrderSeesEachField': WHATEVER THE INPUT: true; the input reads as it did. -/
def fnAlikeBlindToOrderSeesEachFieldSpec : ChangeSpec := { name := "fnAlikeBlindToOrderSeesEachField", fn := fun _ => fun
  | [d1, d2, d3, d4, d5] => { results := [.lit (.bool true)], args := [d1, d2, d3, d4, d5] }
  | _ => none }
def fnAlikeBlindToOrderSeesEachFieldRow : OpenClaim := { program := "qxb6614335a", sum := "b0016c0e8f264c24362bcb9e453fea1dcf0542db125f69c90194653532890703", func := "example.com/fundwarden/fundwarden/zzlaws_holding_b1.FnAlikeBlindToOrderSeesEachField", spec := "fnAlikeBlindToOrderSeesEachField", apart := false }
def FnAlikeBlindToOrderSeesEachFieldSaid : Prop := fnAlikeBlindToOrderSeesEachFieldRow.holds Try.pinned (OpenSpec.ofChange fnAlikeBlindToOrderSeesEachFieldSpec)

/-- ITS FALSE NEIGHBOUR: 'it returns false'. Refute it at one input. -/
def fnAlikeBlindToOrderSeesEachFieldWrong : ChangeSpec := { name := "fnAlikeBlindToOrderSeesEachField", fn := fun _ => fun
  | [d1, d2, d3, d4, d5] => { results := [.lit (.bool false)], args := [d1, d2, d3, d4, d5] }
  | _ => none }
def FnAlikeBlindToOrderSeesEachFieldWrongFalsely : Prop := fnAlikeBlindToOrderSeesEachFieldRow.holds Try.pinned (OpenSpec.ofChange fnAlikeBlindToOrderSeesEachFieldWrong)

end Rows
end Go.Proofs.Qxb6614335a
