/-
  DERIVED. GIVEN WITH THE SEED: THE CARDS: each row of Qxb6628208aFmtRows.lean that lists a variable, with what it lists TIED to the program's text (the seventh form; the later family's looks); each row that meets fmt, with fmt's text TOLD by the authors' own Lean function (tested against real Go, not proved from fmt's source: count such statements apart). THE CARD IS WHAT COUNTS. Prove the row's statement (the work); the ties are given (Qxb6628208aFmtTie.lean); close each card by the builder's one call (the guide's Derived/Test/ToyasCard.lean, 'card_holds'). Laid BY PROGRAM, IN A SANDBOX (cutbox-door.mjs). By AI agents, Wed Nov 11 2026. No macro, syntax, notation, axiom, sorry.
-/
import Derived.Test.Qxb6628208aFmtRows
import GoSem.ClaimSeven
namespace Go.Proofs.Qxb6628208aFmt
namespace Rows

/-- THE TOLD CARD OF 'zzlaws_pkg_sfv_b1.FnQuoteStringDecodesBack'. -/
def fnQuoteStringDecodesBackCard : Claim7 := { stood := { row := fnQuoteStringDecodesBackRow, standIns := [], harness := (true, "eadfb36941f048a090537b1ba550cb5f0fa9d563b5c70704661b56890d68d70b"), looks := false }, told := true, goes := false }
def FnQuoteStringDecodesBackToldSaid : Prop := Claim7.holds Tryf.pinned (.plain (OpenSpec.ofChange fnQuoteStringDecodesBackSpec)) fnQuoteStringDecodesBackCard
/-- ITS FALSE NEIGHBOUR. Refute it at one input. -/
def FnQuoteStringDecodesBackToldWrongFalsely : Prop := Claim7.holds Tryf.pinned (.plain (OpenSpec.ofChange fnQuoteStringDecodesBackWrong)) fnQuoteStringDecodesBackCard

/-- THE TOLD CARD OF 'zzlaws_pkg_sfv_b1.FnQuoteStringSplitsAtAnyCut'. -/
def fnQuoteStringSplitsAtAnyCutCard : Claim7 := { stood := { row := fnQuoteStringSplitsAtAnyCutRow, standIns := [], harness := (true, "eadfb36941f048a090537b1ba550cb5f0fa9d563b5c70704661b56890d68d70b"), looks := false }, told := true, goes := false }
def FnQuoteStringSplitsAtAnyCutToldSaid : Prop := Claim7.holds Tryf.pinned (.plain (OpenSpec.ofChange fnQuoteStringSplitsAtAnyCutSpec)) fnQuoteStringSplitsAtAnyCutCard
/-- ITS FALSE NEIGHBOUR. Refute it at one input. -/
def FnQuoteStringSplitsAtAnyCutToldWrongFalsely : Prop := Claim7.holds Tryf.pinned (.plain (OpenSpec.ofChange fnQuoteStringSplitsAtAnyCutWrong)) fnQuoteStringSplitsAtAnyCutCard
end Rows
end Go.Proofs.Qxb6628208aFmt
