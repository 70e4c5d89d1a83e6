/-
  No cell of these rows narrows 'for every input' (looked for: loops, veiled, ifaces, maps, wideKeys, modest, calm, conditions, laid).
  DERIVED. THE GIVEN ROWS OF THIS SEAT. 2 by the template 'for every input the law returns true; each argument reads behind the call as it read before'; 0 by the template 'total and deterministic' (their statements: Qxb6628208aFmtTotals.lean).
  GIVEN WITH THE SEED: the statements are not yours to turn. If you find one false, say at which input.
  Laid BY PROGRAM, IN A SANDBOX (cutbox-rows.mjs): the forced cells as the released guide's own fill.sh prints them over the translation edd1bbb231fbb30b… (all of the seat's roots in one cut). By AI agents, Wed Nov 11 2026. No macro, syntax, notation, axiom, sorry.
-/
import Derived.Test.Qxb6628208aFmtChecked
import GoSem.Claim
import GoSem.ClaimJoined
import GoSem.ClaimMapViews
import Derived.JoinedTies
import Derived.KernelRfl
namespace Go.Proofs.Qxb6628208aFmt
/- THE CELL 'sum', in the pinned program and in every row, IS THE sha256 OF THE DUMP (.gsa) THAT Qxb6628208aFmtProg.lean LOADS. Nothing in Lean hashes anything: it is a label: what it is worth is what the hold of that sum in a sandbox is worth. -/
noncomputable def Tryf.pinned : Pinned := { name := "qxb6628208afmt", sum := "edd1bbb231fbb30b1ff8451ca8219db50520cd1ad96a6ba1db11b5ee55f1579a", checked := Tryf.checked }
namespace Rows
def none {H : Type} : Left H := { results := [], args := [] }

/-- 'zzlaws_pkg_sfv_b1.FnQuoteStringDecodesBack': WHATEVER THE INPUT: true; the input reads as it did. -/
def fnQuoteStringDecodesBackSpec : ChangeSpec := { name := "fnQuoteStringDecodesBack", fn := fun _ => fun
  | [d] => { results := [.lit (.bool true)], args := [d] }
  | _ => none }
def fnQuoteStringDecodesBackRow : OpenClaim := { program := "qxb6628208afmt", sum := "edd1bbb231fbb30b1ff8451ca8219db50520cd1ad96a6ba1db11b5ee55f1579a", func := "example.com/counterstep/counterstep/zzlaws_pkg_sfv_b1.FnQuoteStringDecodesBack", spec := "fnQuoteStringDecodesBack", stops := ["fmt.errorf"], inPlace := ["internal/abi.NoEscape", "internal/bytealg.MakeNoZero", "fmt.errorf"], apart := false }
/-- NO THEOREM (fmt's text is open here; it may be false): for the released tool's asking of the row's closed facts alone. THE STATEMENT IS 'FnQuoteStringDecodesBackToldSaid' (Qxb6628208aFmtCards.lean). -/
def FnQuoteStringDecodesBackFormAsk : Prop := fnQuoteStringDecodesBackRow.holds Tryf.pinned (OpenSpec.ofChange fnQuoteStringDecodesBackSpec)

/-- ITS FALSE NEIGHBOUR: 'it returns false'. Refute it at one input. -/
def fnQuoteStringDecodesBackWrong : ChangeSpec := { name := "fnQuoteStringDecodesBack", fn := fun _ => fun
  | [d] => { results := [.lit (.bool false)], args := [d] }
  | _ => none }
def FnQuoteStringDecodesBackWrongFormAsk : Prop := fnQuoteStringDecodesBackRow.holds Tryf.pinned (OpenSpec.ofChange fnQuoteStringDecodesBackWrong)

/-- 'zzlaws_pkg_sfv_b1.FnQuoteStringSplitsAtAnyCut': WHATEVER THE INPUT: true; the input reads as it did. -/
def fnQuoteStringSplitsAtAnyCutSpec : ChangeSpec := { name := "fnQuoteStringSplitsAtAnyCut", fn := fun _ => fun
  | [d1, d2] => { results := [.lit (.bool true)], args := [d1, d2] }
  | _ => none }
def fnQuoteStringSplitsAtAnyCutRow : OpenClaim := { program := "qxb6628208afmt", sum := "edd1bbb231fbb30b1ff8451ca8219db50520cd1ad96a6ba1db11b5ee55f1579a", func := "example.com/counterstep/counterstep/zzlaws_pkg_sfv_b1.FnQuoteStringSplitsAtAnyCut", spec := "fnQuoteStringSplitsAtAnyCut", stops := ["fmt.errorf"], inPlace := ["internal/abi.NoEscape", "internal/bytealg.MakeNoZero", "fmt.errorf"], apart := false }
/-- NO THEOREM (fmt's text is open here; it may be false): for the released tool's asking of the row's closed facts alone. THE STATEMENT IS 'FnQuoteStringSplitsAtAnyCutToldSaid' (Qxb6628208aFmtCards.lean). -/
def FnQuoteStringSplitsAtAnyCutFormAsk : Prop := fnQuoteStringSplitsAtAnyCutRow.holds Tryf.pinned (OpenSpec.ofChange fnQuoteStringSplitsAtAnyCutSpec)

/-- ITS FALSE NEIGHBOUR: 'it returns false'. Refute it at one input. -/
def fnQuoteStringSplitsAtAnyCutWrong : ChangeSpec := { name := "fnQuoteStringSplitsAtAnyCut", fn := fun _ => fun
  | [d1, d2] => { results := [.lit (.bool false)], args := [d1, d2] }
  | _ => none }
def FnQuoteStringSplitsAtAnyCutWrongFormAsk : Prop := fnQuoteStringSplitsAtAnyCutRow.holds Tryf.pinned (OpenSpec.ofChange fnQuoteStringSplitsAtAnyCutWrong)

end Rows
end Go.Proofs.Qxb6628208aFmt
