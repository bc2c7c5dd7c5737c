/-
  DERIVED. GIVEN WITH THE SEED: THE CARDS: each row of Qxb6613223aFmtRows.lean that lists a variable, with what it lists TIED to the program's text (the seventh form; the later family's looks); each row that meets fmt, with fmt's text TOLD by the authors' own Lean function (tested against real Go, not proved from fmt's source: count such statements apart). THE CARD IS WHAT COUNTS. Prove the row's statement (the work); the ties are given (Qxb6613223aFmtTie.lean); close each card by the builder's one call (the guide's Derived/Test/ToyasCard.lean, 'card_holds'). Laid BY PROGRAM, IN A SANDBOX (cutbox-door.mjs). By AI agents, Wed Nov 11 2026. No macro, syntax, notation, axiom, sorry.
-/
import Derived.Test.Qxb6613223aFmtRows
import GoSem.ClaimSeven
namespace Go.Proofs.Qxb6613223aFmt
namespace Rows

/-- THE TOLD CARD OF 'zzlaws_yamltext_b1.FnAbridgeHeadIgnoresTail'. -/
def fnAbridgeHeadIgnoresTailCard : Claim7 := { stood := { row := fnAbridgeHeadIgnoresTailRow, standIns := [], harness := (true, "fe322e585d06009c30900b1d7266e0ca8d510d8d19c40b12b5fa191b95e53108"), looks := false }, told := true, goes := false }
def FnAbridgeHeadIgnoresTailToldSaid : Prop := Claim7.holds Tryf.pinned (.plain (OpenSpec.ofChange fnAbridgeHeadIgnoresTailSpec)) fnAbridgeHeadIgnoresTailCard
/-- ITS FALSE NEIGHBOUR. Refute it at one input. -/
def FnAbridgeHeadIgnoresTailToldWrongFalsely : Prop := Claim7.holds Tryf.pinned (.plain (OpenSpec.ofChange fnAbridgeHeadIgnoresTailWrong)) fnAbridgeHeadIgnoresTailCard
end Rows
end Go.Proofs.Qxb6613223aFmt
