/-
  DERIVED. GIVEN WITH THE SEED: THE CARDS: each row of Qxb6628292aFmtRows.lean that lists a variable, with what it lists TIED to the program's text (the seventh form; the later family's looks); each row that meets fmt, with fmt's text TOLD by the authors' own Lean function (tested against real Go, not proved from fmt's source: count such statements apart). THE CARD IS WHAT COUNTS. Prove the row's statement (the work); the ties are given (Qxb6628292aFmtTie.lean); close each card by the builder's one call (the guide's Derived/Test/ToyasCard.lean, 'card_holds'). Laid BY PROGRAM, IN A SANDBOX (cutbox-door.mjs). By AI agents, Wed Nov 11 2026. No macro, syntax, notation, axiom, sorry.
-/
import Derived.Test.Qxb6628292aFmtRows
import GoSem.ClaimSeven
namespace Go.Proofs.Qxb6628292aFmt
namespace Rows

/-- THE TOLD CARD OF 'zzlaws_promtest_b1.FnSeriesSpec'. -/
def fnSeriesSpecCard : Claim7 := { stood := { row := fnSeriesSpecRow, standIns := [], harness := (true, "6669a91bfe30b55dbc4f869d82b9587f1a679299ad4aa17ce2173dcb86cbbae0"), looks := false }, told := true, goes := false }
def FnSeriesSpecToldSaid : Prop := Claim7.holds Tryf.pinned (.plain (OpenSpec.ofChange fnSeriesSpecSpec)) fnSeriesSpecCard
/-- ITS FALSE NEIGHBOUR. Refute it at one input. -/
def FnSeriesSpecToldWrongFalsely : Prop := Claim7.holds Tryf.pinned (.plain (OpenSpec.ofChange fnSeriesSpecWrong)) fnSeriesSpecCard

/-- THE TOLD CARD OF 'zzlaws_promtest_b1.FnSeriesLimitsOnlyAppend'. -/
def fnSeriesLimitsOnlyAppendCard : Claim7 := { stood := { row := fnSeriesLimitsOnlyAppendRow, standIns := [], harness := (true, "6669a91bfe30b55dbc4f869d82b9587f1a679299ad4aa17ce2173dcb86cbbae0"), looks := false }, told := true, goes := false }
def FnSeriesLimitsOnlyAppendToldSaid : Prop := Claim7.holds Tryf.pinned (.plain (OpenSpec.ofChange fnSeriesLimitsOnlyAppendSpec)) fnSeriesLimitsOnlyAppendCard
/-- ITS FALSE NEIGHBOUR. Refute it at one input. -/
def FnSeriesLimitsOnlyAppendToldWrongFalsely : Prop := Claim7.holds Tryf.pinned (.plain (OpenSpec.ofChange fnSeriesLimitsOnlyAppendWrong)) fnSeriesLimitsOnlyAppendCard
end Rows
end Go.Proofs.Qxb6628292aFmt
