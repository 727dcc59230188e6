/-
  DERIVED. GIVEN WITH THE SEED: THE CARDS: each row of Qxb6614660aFmtRows.lean that lists a variable, with what it lists TIED to the program's text (the seventh form; the later family's looks); each row that meets fmt, with fmt's text TOLD by the authors' own Lean function (tested against real Go, not proved from fmt's source: count such statements apart). THE CARD IS WHAT COUNTS. Prove the row's statement (the work); the ties are given (Qxb6614660aFmtTie.lean); close each card by the builder's one call (the guide's Derived/Test/ToyasCard.lean, 'card_holds'). Laid BY PROGRAM, IN A SANDBOX (cutbox-door.mjs). By AI agents, Wed Nov 11 2026. No macro, syntax, notation, axiom, sorry.
-/
import Derived.Test.Qxb6614660aFmtRows
import GoSem.ClaimSeven
namespace Go.Proofs.Qxb6614660aFmt
namespace Rows

/-- THE TOLD CARD OF 'zzlaws_pkg_authtoken_b1.FnParseATCRefusesABrokenMemberAndPassesOverOthers'. -/
def fnParseATCRefusesABrokenMemberAndPassesOverOthersCard : Claim7 := { stood := { row := fnParseATCRefusesABrokenMemberAndPassesOverOthersRow, standIns := [], harness := (true, "a5e7d54da48f6a2cf44d6b67656f94e495cbed65122ba109e3b84525a4d878a0"), looks := true }, told := true, goes := false }
def FnParseATCRefusesABrokenMemberAndPassesOverOthersToldSaid : Prop := Claim7.holds Tryf.pinned (.plain (OpenSpec.ofChange fnParseATCRefusesABrokenMemberAndPassesOverOthersSpec)) fnParseATCRefusesABrokenMemberAndPassesOverOthersCard
/-- ITS FALSE NEIGHBOUR. Refute it at one input. -/
def FnParseATCRefusesABrokenMemberAndPassesOverOthersToldWrongFalsely : Prop := Claim7.holds Tryf.pinned (.plain (OpenSpec.ofChange fnParseATCRefusesABrokenMemberAndPassesOverOthersWrong)) fnParseATCRefusesABrokenMemberAndPassesOverOthersCard
end Rows
end Go.Proofs.Qxb6614660aFmt
