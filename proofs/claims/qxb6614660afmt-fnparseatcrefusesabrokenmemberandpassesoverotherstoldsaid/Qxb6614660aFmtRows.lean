/-
  No cell of these rows narrows 'for every input' (looked for: loops, veiled, ifaces, maps, wideKeys, modest, calm, conditions, laid).
  DERIVED. THE GIVEN ROWS OF THIS SEAT. 1 by the template 'for every input the law returns true; each argument reads behind the call as it read before'; 0 by the template 'total and deterministic' (their statements: Qxb6614660aFmtTotals.lean).
  GIVEN WITH THE SEED: the statements are not yours to turn. If you find one false, say at which input.
  Laid BY PROGRAM, IN A SANDBOX (cutbox-rows.mjs): the forced cells as the released guide's own fill.sh prints them over the translation d6148cb6f5f0d3e3… (all of the seat's roots in one cut). By AI agents, Wed Nov 11 2026. No macro, syntax, notation, axiom, sorry.
-/
import Derived.Test.Qxb6614660aFmtChecked
import GoSem.Claim
import GoSem.ClaimJoined
import GoSem.ClaimMapViews
import Derived.JoinedTies
import Derived.KernelRfl
namespace Go.Proofs.Qxb6614660aFmt
/- THE CELL 'sum', in the pinned program and in every row, IS THE sha256 OF THE DUMP (.gsa) THAT Qxb6614660aFmtProg.lean LOADS. Nothing in Lean hashes anything: it is a label: what it is worth is what the hold of that sum in a sandbox is worth. -/
noncomputable def Tryf.pinned : Pinned := { name := "qxb6614660afmt", sum := "d6148cb6f5f0d3e3e999719d652bb4f93af736faa587fda7961be0ad04bf380e", checked := Tryf.checked }
namespace Rows
def none {H : Type} : Left H := { results := [], args := [] }

/-- 'zzlaws_pkg_authtoken_b1.FnParseATCRefusesABrokenMemberAndPassesOverOthers': WHATEVER THE INPUT: true; the input reads as it did. -/
def fnParseATCRefusesABrokenMemberAndPassesOverOthersSpec : ChangeSpec := { name := "fnParseATCRefusesABrokenMemberAndPassesOverOthers", fn := fun _ => fun
  | [d1, d2, d3, d4, d5, d6, d7] => { results := [.lit (.bool true)], args := [d1, d2, d3, d4, d5, d6, d7] }
  | _ => none }
def fnParseATCRefusesABrokenMemberAndPassesOverOthersRow : OpenClaim := { program := "qxb6614660afmt", sum := "d6148cb6f5f0d3e3e999719d652bb4f93af736faa587fda7961be0ad04bf380e", func := "example.com/vouchpoint/vouchpoint/zzlaws_pkg_authtoken_b1.FnParseATCRefusesABrokenMemberAndPassesOverOthers", spec := "fnParseATCRefusesABrokenMemberAndPassesOverOthers", stops := ["fmt.errorf"], inPlace := ["fmt.errorf"], apart := false }
/-- NO THEOREM (fmt's text is open here; it may be false): for the released tool's asking of the row's closed facts alone. THE STATEMENT IS 'FnParseATCRefusesABrokenMemberAndPassesOverOthersToldSaid' (Qxb6614660aFmtCards.lean). -/
def FnParseATCRefusesABrokenMemberAndPassesOverOthersFormAsk : Prop := fnParseATCRefusesABrokenMemberAndPassesOverOthersRow.holds Tryf.pinned (OpenSpec.ofChange fnParseATCRefusesABrokenMemberAndPassesOverOthersSpec)

/-- ITS FALSE NEIGHBOUR: 'it returns false'. Refute it at one input. -/
def fnParseATCRefusesABrokenMemberAndPassesOverOthersWrong : ChangeSpec := { name := "fnParseATCRefusesABrokenMemberAndPassesOverOthers", fn := fun _ => fun
  | [d1, d2, d3, d4, d5, d6, d7] => { results := [.lit (.bool false)], args := [d1, d2, d3, d4, d5, d6, d7] }
  | _ => none }
def FnParseATCRefusesABrokenMemberAndPassesOverOthersWrongFormAsk : Prop := fnParseATCRefusesABrokenMemberAndPassesOverOthersRow.holds Tryf.pinned (OpenSpec.ofChange fnParseATCRefusesABrokenMemberAndPassesOverOthersWrong)

end Rows
end Go.Proofs.Qxb6614660aFmt
