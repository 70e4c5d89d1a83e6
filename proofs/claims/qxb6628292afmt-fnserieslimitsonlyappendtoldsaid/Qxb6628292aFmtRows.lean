/-
  No cell of these rows narrows 'for every input' (looked for: loops, veiled, ifaces, maps, wideKeys, modest, calm, conditions, laid).
  DERIVED. THE GIVEN ROWS OF THIS SEAT. 2 by the template 'for every input the law returns true; each argument reads behind the call as it read before'; 0 by the template 'total and deterministic' (their statements: Qxb6628292aFmtTotals.lean).
  GIVEN WITH THE SEED: the statements are not yours to turn. If you find one false, say at which input.
  Laid BY PROGRAM, IN A SANDBOX (cutbox-rows.mjs): the forced cells as the released guide's own fill.sh prints them over the translation f54cda74d8cf5215… (all of the seat's roots in one cut). By AI agents, Wed Nov 11 2026. No macro, syntax, notation, axiom, sorry.
-/
import Derived.Test.Qxb6628292aFmtChecked
import GoSem.Claim
import GoSem.ClaimJoined
import GoSem.ClaimMapViews
import Derived.JoinedTies
import Derived.KernelRfl
namespace Go.Proofs.Qxb6628292aFmt
/- THE CELL 'sum', in the pinned program and in every row, IS THE sha256 OF THE DUMP (.gsa) THAT Qxb6628292aFmtProg.lean LOADS. Nothing in Lean hashes anything: it is a label: what it is worth is what the hold of that sum in a sandbox is worth. -/
noncomputable def Tryf.pinned : Pinned := { name := "qxb6628292afmt", sum := "f54cda74d8cf52156516274c0a3f5e8a9bd9c8ebef53d227d7a8fd54a9c23153", checked := Tryf.checked }
namespace Rows
def none {H : Type} : Left H := { results := [], args := [] }

/-- 'zzlaws_promtest_b1.FnSeriesSpec': WHATEVER THE INPUT: true; the input reads as it did. -/
def fnSeriesSpecSpec : ChangeSpec := { name := "fnSeriesSpec", fn := fun _ => fun
  | [d1, d2, d3, d4, d5, d6, d7] => { results := [.lit (.bool true)], args := [d1, d2, d3, d4, d5, d6, d7] }
  | _ => none }
def fnSeriesSpecRow : OpenClaim := { program := "qxb6628292afmt", sum := "f54cda74d8cf52156516274c0a3f5e8a9bd9c8ebef53d227d7a8fd54a9c23153", func := "example.com/plumbline/plumbline/zzlaws_promtest_b1.FnSeriesSpec", spec := "fnSeriesSpec", stops := ["fmt.Sprintf"], inPlace := ["fmt.Sprintf"], apart := false }
/-- NO THEOREM (fmt's text is open here; it may be false): for the released tool's asking of the row's closed facts alone. THE STATEMENT IS 'FnSeriesSpecToldSaid' (Qxb6628292aFmtCards.lean). -/
def FnSeriesSpecFormAsk : Prop := fnSeriesSpecRow.holds Tryf.pinned (OpenSpec.ofChange fnSeriesSpecSpec)

/-- ITS FALSE NEIGHBOUR: 'it returns false'. Refute it at one input. -/
def fnSeriesSpecWrong : ChangeSpec := { name := "fnSeriesSpec", fn := fun _ => fun
  | [d1, d2, d3, d4, d5, d6, d7] => { results := [.lit (.bool false)], args := [d1, d2, d3, d4, d5, d6, d7] }
  | _ => none }
def FnSeriesSpecWrongFormAsk : Prop := fnSeriesSpecRow.holds Tryf.pinned (OpenSpec.ofChange fnSeriesSpecWrong)

/-- 'zzlaws_promtest_b1.FnSeriesLimitsOnlyAppend': WHATEVER THE INPUT: true; the input reads as it did. -/
def fnSeriesLimitsOnlyAppendSpec : ChangeSpec := { name := "fnSeriesLimitsOnlyAppend", fn := fun _ => fun
  | [d1, d2, d3, d4, d5, d6, d7] => { results := [.lit (.bool true)], args := [d1, d2, d3, d4, d5, d6, d7] }
  | _ => none }
def fnSeriesLimitsOnlyAppendRow : OpenClaim := { program := "qxb6628292afmt", sum := "f54cda74d8cf52156516274c0a3f5e8a9bd9c8ebef53d227d7a8fd54a9c23153", func := "example.com/plumbline/plumbline/zzlaws_promtest_b1.FnSeriesLimitsOnlyAppend", spec := "fnSeriesLimitsOnlyAppend", stops := ["fmt.Sprintf"], inPlace := ["fmt.Sprintf"], apart := false }
/-- NO THEOREM (fmt's text is open here; it may be false): for the released tool's asking of the row's closed facts alone. THE STATEMENT IS 'FnSeriesLimitsOnlyAppendToldSaid' (Qxb6628292aFmtCards.lean). -/
def FnSeriesLimitsOnlyAppendFormAsk : Prop := fnSeriesLimitsOnlyAppendRow.holds Tryf.pinned (OpenSpec.ofChange fnSeriesLimitsOnlyAppendSpec)

/-- ITS FALSE NEIGHBOUR: 'it returns false'. Refute it at one input. -/
def fnSeriesLimitsOnlyAppendWrong : ChangeSpec := { name := "fnSeriesLimitsOnlyAppend", fn := fun _ => fun
  | [d1, d2, d3, d4, d5, d6, d7] => { results := [.lit (.bool false)], args := [d1, d2, d3, d4, d5, d6, d7] }
  | _ => none }
def FnSeriesLimitsOnlyAppendWrongFormAsk : Prop := fnSeriesLimitsOnlyAppendRow.holds Tryf.pinned (OpenSpec.ofChange fnSeriesLimitsOnlyAppendWrong)

end Rows
end Go.Proofs.Qxb6628292aFmt
