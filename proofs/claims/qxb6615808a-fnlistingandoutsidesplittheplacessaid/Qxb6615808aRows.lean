/-
  No cell of these rows narrows 'for every input' (looked for: loops, veiled, ifaces, maps, wideKeys, modest, calm, conditions, laid).
  DERIVED. THE GIVEN ROWS OF THIS SEAT. 4 by the template 'for every input the law returns true; each argument reads behind the call as it read before'; 0 by the template 'total and deterministic' (their statements: Qxb6615808aTotals.lean).
  GIVEN WITH THE SEED: the statements are not yours to turn. If you find one false, say at which input.
  Laid BY PROGRAM, IN A SANDBOX (cutbox-rows.mjs): the forced cells as the released guide's own fill.sh prints them over the translation 85a47bd14d3ad2fe… (all of the seat's roots in one cut). By AI agents, Wed Nov 11 2026. No macro, syntax, notation, axiom, sorry.
-/
import Derived.Test.Qxb6615808aChecked
import GoSem.Claim
import GoSem.ClaimJoined
import GoSem.ClaimMapViews
import Derived.JoinedTies
import Derived.KernelRfl
namespace Go.Proofs.Qxb6615808a
/- THE CELL 'sum', in the pinned program and in every row, IS THE sha256 OF THE DUMP (.gsa) THAT Qxb6615808aProg.lean LOADS. Nothing in Lean hashes anything: it is a label: what it is worth is what the hold of that sum in a sandbox is worth. -/
noncomputable def Try.pinned : Pinned := { name := "qxb6615808a", sum := "85a47bd14d3ad2fedc03cc125b6bf9defa8d6ef8225d82b4708a6443e28bc36b", checked := Try.checked }
namespace Rows
def none {H : Type} : Left H := { results := [], args := [] }

/-- 'zzlaws_root_b1.FnListingAndOutsideSplitThePlaces': WHATEVER THE INPUT: true; the input reads as it did. -/
def fnListingAndOutsideSplitThePlacesSpec : ChangeSpec := { name := "fnListingAndOutsideSplitThePlaces", fn := fun _ => fun
  | [d1, d2, d3] => { results := [.lit (.bool true)], args := [d1, d2, d3] }
  | _ => none }
def fnListingAndOutsideSplitThePlacesRow : OpenClaim := { program := "qxb6615808a", sum := "85a47bd14d3ad2fedc03cc125b6bf9defa8d6ef8225d82b4708a6443e28bc36b", func := "example.com/hasp4/hasp4/zzlaws_root_b1.FnListingAndOutsideSplitThePlaces", spec := "fnListingAndOutsideSplitThePlaces", unfollowed := true, recurses := true, apart := false }
def FnListingAndOutsideSplitThePlacesSaid : Prop := fnListingAndOutsideSplitThePlacesRow.holds Try.pinned (OpenSpec.ofChange fnListingAndOutsideSplitThePlacesSpec)

/-- ITS FALSE NEIGHBOUR: 'it returns false'. Refute it at one input. -/
def fnListingAndOutsideSplitThePlacesWrong : ChangeSpec := { name := "fnListingAndOutsideSplitThePlaces", fn := fun _ => fun
  | [d1, d2, d3] => { results := [.lit (.bool false)], args := [d1, d2, d3] }
  | _ => none }
def FnListingAndOutsideSplitThePlacesWrongFalsely : Prop := fnListingAndOutsideSplitThePlacesRow.holds Try.pinned (OpenSpec.ofChange fnListingAndOutsideSplitThePlacesWrong)

/-- 'zzlaws_root_b1.FnListingOfWhatOutsideLeavesGivesTheListBack': WHATEVER THE INPUT: true; the input reads as it did. -/
def fnListingOfWhatOutsideLeavesGivesTheListBackSpec : ChangeSpec := { name := "fnListingOfWhatOutsideLeavesGivesTheListBack", fn := fun _ => fun
  | [d1, d2, d3] => { results := [.lit (.bool true)], args := [d1, d2, d3] }
  | _ => none }
def fnListingOfWhatOutsideLeavesGivesTheListBackRow : OpenClaim := { program := "qxb6615808a", sum := "85a47bd14d3ad2fedc03cc125b6bf9defa8d6ef8225d82b4708a6443e28bc36b", func := "example.com/hasp4/hasp4/zzlaws_root_b1.FnListingOfWhatOutsideLeavesGivesTheListBack", spec := "fnListingOfWhatOutsideLeavesGivesTheListBack", unfollowed := true, recurses := true, apart := false }
def FnListingOfWhatOutsideLeavesGivesTheListBackSaid : Prop := fnListingOfWhatOutsideLeavesGivesTheListBackRow.holds Try.pinned (OpenSpec.ofChange fnListingOfWhatOutsideLeavesGivesTheListBackSpec)

/-- ITS FALSE NEIGHBOUR: 'it returns false'. Refute it at one input. -/
def fnListingOfWhatOutsideLeavesGivesTheListBackWrong : ChangeSpec := { name := "fnListingOfWhatOutsideLeavesGivesTheListBack", fn := fun _ => fun
  | [d1, d2, d3] => { results := [.lit (.bool false)], args := [d1, d2, d3] }
  | _ => none }
def FnListingOfWhatOutsideLeavesGivesTheListBackWrongFalsely : Prop := fnListingOfWhatOutsideLeavesGivesTheListBackRow.holds Try.pinned (OpenSpec.ofChange fnListingOfWhatOutsideLeavesGivesTheListBackWrong)

/-- 'zzlaws_root_b1.FnOutsideHoldsExactlyTheOthers': WHATEVER THE INPUT: true; the input reads as it did. -/
def fnOutsideHoldsExactlyTheOthersSpec : ChangeSpec := { name := "fnOutsideHoldsExactlyTheOthers", fn := fun _ => fun
  | [d1, d2, d3, d4, d5] => { results := [.lit (.bool true)], args := [d1, d2, d3, d4, d5] }
  | _ => none }
def fnOutsideHoldsExactlyTheOthersRow : OpenClaim := { program := "qxb6615808a", sum := "85a47bd14d3ad2fedc03cc125b6bf9defa8d6ef8225d82b4708a6443e28bc36b", func := "example.com/hasp4/hasp4/zzlaws_root_b1.FnOutsideHoldsExactlyTheOthers", spec := "fnOutsideHoldsExactlyTheOthers", unfollowed := true, recurses := true, apart := false }
def FnOutsideHoldsExactlyTheOthersSaid : Prop := fnOutsideHoldsExactlyTheOthersRow.holds Try.pinned (OpenSpec.ofChange fnOutsideHoldsExactlyTheOthersSpec)

/-- ITS FALSE NEIGHBOUR: 'it returns false'. Refute it at one input. -/
def fnOutsideHoldsExactlyTheOthersWrong : ChangeSpec := { name := "fnOutsideHoldsExactlyTheOthers", fn := fun _ => fun
  | [d1, d2, d3, d4, d5] => { results := [.lit (.bool false)], args := [d1, d2, d3, d4, d5] }
  | _ => none }
def FnOutsideHoldsExactlyTheOthersWrongFalsely : Prop := fnOutsideHoldsExactlyTheOthersRow.holds Try.pinned (OpenSpec.ofChange fnOutsideHoldsExactlyTheOthersWrong)

/-- 'zzlaws_root_b1.FnOutsideOfARunAndOfItsInverse': WHATEVER THE INPUT: true; the input reads as it did. -/
def fnOutsideOfARunAndOfItsInverseSpec : ChangeSpec := { name := "fnOutsideOfARunAndOfItsInverse", fn := fun _ => fun
  | [d1, d2, d3, d4, d5] => { results := [.lit (.bool true)], args := [d1, d2, d3, d4, d5] }
  | _ => none }
def fnOutsideOfARunAndOfItsInverseRow : OpenClaim := { program := "qxb6615808a", sum := "85a47bd14d3ad2fedc03cc125b6bf9defa8d6ef8225d82b4708a6443e28bc36b", func := "example.com/hasp4/hasp4/zzlaws_root_b1.FnOutsideOfARunAndOfItsInverse", spec := "fnOutsideOfARunAndOfItsInverse", unfollowed := true, recurses := true, apart := false }
def FnOutsideOfARunAndOfItsInverseSaid : Prop := fnOutsideOfARunAndOfItsInverseRow.holds Try.pinned (OpenSpec.ofChange fnOutsideOfARunAndOfItsInverseSpec)

/-- ITS FALSE NEIGHBOUR: 'it returns false'. Refute it at one input. -/
def fnOutsideOfARunAndOfItsInverseWrong : ChangeSpec := { name := "fnOutsideOfARunAndOfItsInverse", fn := fun _ => fun
  | [d1, d2, d3, d4, d5] => { results := [.lit (.bool false)], args := [d1, d2, d3, d4, d5] }
  | _ => none }
def FnOutsideOfARunAndOfItsInverseWrongFalsely : Prop := fnOutsideOfARunAndOfItsInverseRow.holds Try.pinned (OpenSpec.ofChange fnOutsideOfARunAndOfItsInverseWrong)

end Rows
end Go.Proofs.Qxb6615808a
