/-
  No cell of these rows narrows 'for every input' (looked for: loops, veiled, ifaces, maps, wideKeys, modest, calm, conditions, laid).
  DERIVED. THE GIVEN ROWS OF THIS SEAT. 2 by the template 'for every input the law returns true; each argument reads behind the call as it read before'; 0 by the template 'total and deterministic' (their statements: Qxb6628155aTotals.lean).
  GIVEN WITH THE SEED: the statements are not yours to turn. If you find one false, say at which input.
  Laid BY PROGRAM, IN A SANDBOX (cutbox-rows.mjs): the forced cells as the released guide's own fill.sh prints them over the translation efb396a9632dd76e… (all of the seat's roots in one cut). By AI agents, Wed Nov 11 2026. No macro, syntax, notation, axiom, sorry.
-/
import Derived.Test.Qxb6628155aChecked
import GoSem.Claim
import GoSem.ClaimJoined
import GoSem.ClaimMapViews
import Derived.JoinedTies
import Derived.KernelRfl
namespace Go.Proofs.Qxb6628155a
/- THE CELL 'sum', in the pinned program and in every row, IS THE sha256 OF THE DUMP (.gsa) THAT Qxb6628155aProg.lean LOADS. Nothing in Lean hashes anything: it is a label: what it is worth is what the hold of that sum in a sandbox is worth. -/
noncomputable def Try.pinned : Pinned := { name := "qxb6628155a", sum := "efb396a9632dd76ed8eeab4978f163b1077909b5c3a1397b74115a480d2eb1a4", checked := Try.checked }
namespace Rows
def none {H : Type} : Left H := { results := [], args := [] }

/-- 'zzlaws_pkg_epp_b1.FnExtensionInsertedAnywhere': WHATEVER THE INPUT: true; the input reads as it did. -/
def fnExtensionInsertedAnywhereSpec : ChangeSpec := { name := "fnExtensionInsertedAnywhere", fn := fun _ => fun
  | [d1, d2, d3, d4] => { results := [.lit (.bool true)], args := [d1, d2, d3, d4] }
  | _ => none }
def fnExtensionInsertedAnywhereRow : OpenClaim := { program := "qxb6628155a", sum := "efb396a9632dd76ed8eeab4978f163b1077909b5c3a1397b74115a480d2eb1a4", func := "example.com/phasewire/phasewire/zzlaws_pkg_epp_b1.FnExtensionInsertedAnywhere", spec := "fnExtensionInsertedAnywhere", apart := false }
def FnExtensionInsertedAnywhereSaid : Prop := fnExtensionInsertedAnywhereRow.holds Try.pinned (OpenSpec.ofChange fnExtensionInsertedAnywhereSpec)

/-- ITS FALSE NEIGHBOUR: 'it returns false'. Refute it at one input. -/
def fnExtensionInsertedAnywhereWrong : ChangeSpec := { name := "fnExtensionInsertedAnywhere", fn := fun _ => fun
  | [d1, d2, d3, d4] => { results := [.lit (.bool false)], args := [d1, d2, d3, d4] }
  | _ => none }
def FnExtensionInsertedAnywhereWrongFalsely : Prop := fnExtensionInsertedAnywhereRow.holds Try.pinned (OpenSpec.ofChange fnExtensionInsertedAnywhereWrong)

/-- 'zzlaws_pkg_epp_b1.FnExtensionFindsEveryCarried': WHATEVER THE INPUT: true; the input reads as it did. -/
def fnExtensionFindsEveryCarriedSpec : ChangeSpec := { name := "fnExtensionFindsEveryCarried", fn := fun _ => fun
  | [d] => { results := [.lit (.bool true)], args := [d] }
  | _ => none }
def fnExtensionFindsEveryCarriedRow : OpenClaim := { program := "qxb6628155a", sum := "efb396a9632dd76ed8eeab4978f163b1077909b5c3a1397b74115a480d2eb1a4", func := "example.com/phasewire/phasewire/zzlaws_pkg_epp_b1.FnExtensionFindsEveryCarried", spec := "fnExtensionFindsEveryCarried", apart := false }
def FnExtensionFindsEveryCarriedSaid : Prop := fnExtensionFindsEveryCarriedRow.holds Try.pinned (OpenSpec.ofChange fnExtensionFindsEveryCarriedSpec)

/-- ITS FALSE NEIGHBOUR: 'it returns false'. Refute it at one input. -/
def fnExtensionFindsEveryCarriedWrong : ChangeSpec := { name := "fnExtensionFindsEveryCarried", fn := fun _ => fun
  | [d] => { results := [.lit (.bool false)], args := [d] }
  | _ => none }
def FnExtensionFindsEveryCarriedWrongFalsely : Prop := fnExtensionFindsEveryCarriedRow.holds Try.pinned (OpenSpec.ofChange fnExtensionFindsEveryCarriedWrong)

end Rows
end Go.Proofs.Qxb6628155a
