/-
  No cell of these rows narrows 'for every input' (looked for: loops, veiled, ifaces, maps, wideKeys, modest, calm, conditions, laid).
  DERIVED. THE GIVEN ROWS OF THIS SEAT. 8 by the template 'for every input the law returns true; each argument reads behind the call as it read before'; 0 by the template 'total and deterministic' (their statements: Qxb6600130aTotals.lean).
  GIVEN WITH THE SEED: the statements are not yours to turn. If you find one false, say at which input.
  Laid BY PROGRAM, IN A SANDBOX (cutbox-rows.mjs): the forced cells as the released guide's own fill.sh prints them over the translation d231dcb1b377afa6… (all of the seat's roots in one cut). By AI agents, Wed Nov 11 2026. No macro, syntax, notation, axiom, sorry.
-/
import Derived.Test.Qxb6600130aChecked
import GoSem.Claim
import GoSem.ClaimJoined
import GoSem.ClaimMapViews
import Derived.JoinedTies
import Derived.KernelRfl
namespace Go.Proofs.Qxb6600130a
/- THE CELL 'sum', in the pinned program and in every row, IS THE sha256 OF THE DUMP (.gsa) THAT Qxb6600130aProg.lean LOADS. Nothing in Lean hashes anything: it is a label: what it is worth is what the hold of that sum in a sandbox is worth. -/
noncomputable def Try.pinned : Pinned := { name := "qxb6600130a", sum := "d231dcb1b377afa60693068bedb948d4647a7d1fc0b07f46b4024aafd6e25d73", checked := Try.checked }
namespace Rows
def none {H : Type} : Left H := { results := [], args := [] }

/-- 'zzlaws_root_b1.FnFriendshipCountsCommonNeighbours': WHATEVER THE INPUT: true; the input reads as it did. -/
def fnFriendshipCountsCommonNeighboursSpec : ChangeSpec := { name := "fnFriendshipCountsCommonNeighbours", fn := fun _ => fun
  | [d1, d2, d3, d4] => { results := [.lit (.bool true)], args := [d1, d2, d3, d4] }
  | _ => none }
def fnFriendshipCountsCommonNeighboursRow : OpenClaim := { program := "qxb6600130a", sum := "d231dcb1b377afa60693068bedb948d4647a7d1fc0b07f46b4024aafd6e25d73", func := "example.com/murmurant/murmurant/zzlaws_root_b1.FnFriendshipCountsCommonNeighbours", spec := "fnFriendshipCountsCommonNeighbours", apart := false }
def FnFriendshipCountsCommonNeighboursSaid : Prop := fnFriendshipCountsCommonNeighboursRow.holds Try.pinned (OpenSpec.ofChange fnFriendshipCountsCommonNeighboursSpec)

/-- ITS FALSE NEIGHBOUR: 'it returns false'. Refute it at one input. -/
def fnFriendshipCountsCommonNeighboursWrong : ChangeSpec := { name := "fnFriendshipCountsCommonNeighbours", fn := fun _ => fun
  | [d1, d2, d3, d4] => { results := [.lit (.bool false)], args := [d1, d2, d3, d4] }
  | _ => none }
def FnFriendshipCountsCommonNeighboursWrongFalsely : Prop := fnFriendshipCountsCommonNeighboursRow.holds Try.pinned (OpenSpec.ofChange fnFriendshipCountsCommonNeighboursWrong)

/-- 'zzlaws_root_b1.FnFriendshipIsSymmetric': WHATEVER THE INPUT: true; the input reads as it did. -/
def fnFriendshipIsSymmetricSpec : ChangeSpec := { name := "fnFriendshipIsSymmetric", fn := fun _ => fun
  | [d1, d2, d3, d4] => { results := [.lit (.bool true)], args := [d1, d2, d3, d4] }
  | _ => none }
def fnFriendshipIsSymmetricRow : OpenClaim := { program := "qxb6600130a", sum := "d231dcb1b377afa60693068bedb948d4647a7d1fc0b07f46b4024aafd6e25d73", func := "example.com/murmurant/murmurant/zzlaws_root_b1.FnFriendshipIsSymmetric", spec := "fnFriendshipIsSymmetric", apart := false }
def FnFriendshipIsSymmetricSaid : Prop := fnFriendshipIsSymmetricRow.holds Try.pinned (OpenSpec.ofChange fnFriendshipIsSymmetricSpec)

/-- ITS FALSE NEIGHBOUR: 'it returns false'. Refute it at one input. -/
def fnFriendshipIsSymmetricWrong : ChangeSpec := { name := "fnFriendshipIsSymmetric", fn := fun _ => fun
  | [d1, d2, d3, d4] => { results := [.lit (.bool false)], args := [d1, d2, d3, d4] }
  | _ => none }
def FnFriendshipIsSymmetricWrongFalsely : Prop := fnFriendshipIsSymmetricRow.holds Try.pinned (OpenSpec.ofChange fnFriendshipIsSymmetricWrong)

/-- 'zzlaws_root_b1.FnFriendshipAtMostOneExactlyOneForEqualNeighbours': WHATEVER THE INPUT: true; the input reads as it did. -/
def fnFriendshipAtMostOneExactlyOneForEqualNeighboursSpec : ChangeSpec := { name := "fnFriendshipAtMostOneExactlyOneForEqualNeighbours", fn := fun _ => fun
  | [d1, d2, d3, d4] => { results := [.lit (.bool true)], args := [d1, d2, d3, d4] }
  | _ => none }
def fnFriendshipAtMostOneExactlyOneForEqualNeighboursRow : OpenClaim := { program := "qxb6600130a", sum := "d231dcb1b377afa60693068bedb948d4647a7d1fc0b07f46b4024aafd6e25d73", func := "example.com/murmurant/murmurant/zzlaws_root_b1.FnFriendshipAtMostOneExactlyOneForEqualNeighbours", spec := "fnFriendshipAtMostOneExactlyOneForEqualNeighbours", apart := false }
def FnFriendshipAtMostOneExactlyOneForEqualNeighboursSaid : Prop := fnFriendshipAtMostOneExactlyOneForEqualNeighboursRow.holds Try.pinned (OpenSpec.ofChange fnFriendshipAtMostOneExactlyOneForEqualNeighboursSpec)

/-- ITS FALSE NEIGHBOUR: 'it returns false'. Refute it at one input. -/
def fnFriendshipAtMostOneExactlyOneForEqualNeighboursWrong : ChangeSpec := { name := "fnFriendshipAtMostOneExactlyOneForEqualNeighbours", fn := fun _ => fun
  | [d1, d2, d3, d4] => { results := [.lit (.bool false)], args := [d1, d2, d3, d4] }
  | _ => none }
def FnFriendshipAtMostOneExactlyOneForEqualNeighboursWrongFalsely : Prop := fnFriendshipAtMostOneExactlyOneForEqualNeighboursRow.holds Try.pinned (OpenSpec.ofChange fnFriendshipAtMostOneExactlyOneForEqualNeighboursWrong)

/-- 'zzlaws_root_b1.FnTakeKeepsViewDistinctWithoutSelf': WHATEVER THE INPUT: true; the input reads as it did. -/
def fnTakeKeepsViewDistinctWithoutSelfSpec : ChangeSpec := { name := "fnTakeKeepsViewDistinctWithoutSelf", fn := fun _ => fun
  | [d1, d2, d3, d4, d5, d6] => { results := [.lit (.bool true)], args := [d1, d2, d3, d4, d5, d6] }
  | _ => none }
def fnTakeKeepsViewDistinctWithoutSelfRow : OpenClaim := { program := "qxb6600130a", sum := "d231dcb1b377afa60693068bedb948d4647a7d1fc0b07f46b4024aafd6e25d73", func := "example.com/murmurant/murmurant/zzlaws_root_b1.FnTakeKeepsViewDistinctWithoutSelf", spec := "fnTakeKeepsViewDistinctWithoutSelf", apart := false }
def FnTakeKeepsViewDistinctWithoutSelfSaid : Prop := fnTakeKeepsViewDistinctWithoutSelfRow.holds Try.pinned (OpenSpec.ofChange fnTakeKeepsViewDistinctWithoutSelfSpec)

/-- ITS FALSE NEIGHBOUR: 'it returns false'. Refute it at one input. -/
def fnTakeKeepsViewDistinctWithoutSelfWrong : ChangeSpec := { name := "fnTakeKeepsViewDistinctWithoutSelf", fn := fun _ => fun
  | [d1, d2, d3, d4, d5, d6] => { results := [.lit (.bool false)], args := [d1, d2, d3, d4, d5, d6] }
  | _ => none }
def FnTakeKeepsViewDistinctWithoutSelfWrongFalsely : Prop := fnTakeKeepsViewDistinctWithoutSelfRow.holds Try.pinned (OpenSpec.ofChange fnTakeKeepsViewDistinctWithoutSelfWrong)

/-- 'zzlaws_root_b1.FnTakePassesOverWhatItHolds': WHATEVER THE INPUT: true; the input reads as it did. -/
def fnTakePassesOverWhatItHoldsSpec : ChangeSpec := { name := "fnTakePassesOverWhatItHolds", fn := fun _ => fun
  | [d1, d2, d3, d4, d5, d6] => { results := [.lit (.bool true)], args := [d1, d2, d3, d4, d5, d6] }
  | _ => none }
def fnTakePassesOverWhatItHoldsRow : OpenClaim := { program := "qxb6600130a", sum := "d231dcb1b377afa60693068bedb948d4647a7d1fc0b07f46b4024aafd6e25d73", func := "example.com/murmurant/murmurant/zzlaws_root_b1.FnTakePassesOverWhatItHolds", spec := "fnTakePassesOverWhatItHolds", apart := false }
def FnTakePassesOverWhatItHoldsSaid : Prop := fnTakePassesOverWhatItHoldsRow.holds Try.pinned (OpenSpec.ofChange fnTakePassesOverWhatItHoldsSpec)

/-- ITS FALSE NEIGHBOUR: 'it returns false'. Refute it at one input. -/
def fnTakePassesOverWhatItHoldsWrong : ChangeSpec := { name := "fnTakePassesOverWhatItHolds", fn := fun _ => fun
  | [d1, d2, d3, d4, d5, d6] => { results := [.lit (.bool false)], args := [d1, d2, d3, d4, d5, d6] }
  | _ => none }
def FnTakePassesOverWhatItHoldsWrongFalsely : Prop := fnTakePassesOverWhatItHoldsRow.holds Try.pinned (OpenSpec.ofChange fnTakePassesOverWhatItHoldsWrong)

/-- 'zzlaws_root_b1.FnTakeFillsLivePlacesInOrder': WHATEVER THE INPUT: true; the input reads as it did. -/
def fnTakeFillsLivePlacesInOrderSpec : ChangeSpec := { name := "fnTakeFillsLivePlacesInOrder", fn := fun _ => fun
  | [d1, d2, d3, d4, d5, d6] => { results := [.lit (.bool true)], args := [d1, d2, d3, d4, d5, d6] }
  | _ => none }
def fnTakeFillsLivePlacesInOrderRow : OpenClaim := { program := "qxb6600130a", sum := "d231dcb1b377afa60693068bedb948d4647a7d1fc0b07f46b4024aafd6e25d73", func := "example.com/murmurant/murmurant/zzlaws_root_b1.FnTakeFillsLivePlacesInOrder", spec := "fnTakeFillsLivePlacesInOrder", apart := false }
def FnTakeFillsLivePlacesInOrderSaid : Prop := fnTakeFillsLivePlacesInOrderRow.holds Try.pinned (OpenSpec.ofChange fnTakeFillsLivePlacesInOrderSpec)

/-- ITS FALSE NEIGHBOUR: 'it returns false'. Refute it at one input. -/
def fnTakeFillsLivePlacesInOrderWrong : ChangeSpec := { name := "fnTakeFillsLivePlacesInOrder", fn := fun _ => fun
  | [d1, d2, d3, d4, d5, d6] => { results := [.lit (.bool false)], args := [d1, d2, d3, d4, d5, d6] }
  | _ => none }
def FnTakeFillsLivePlacesInOrderWrongFalsely : Prop := fnTakeFillsLivePlacesInOrderRow.holds Try.pinned (OpenSpec.ofChange fnTakeFillsLivePlacesInOrderWrong)

/-- 'zzlaws_root_b1.FnCloneAgreesWithOriginal': WHATEVER THE INPUT: true; the input reads as it did. -/
def fnCloneAgreesWithOriginalSpec : ChangeSpec := { name := "fnCloneAgreesWithOriginal", fn := fun _ => fun
  | [d1, d2, d3, d4, d5, d6, d7, d8, d9, d10] => { results := [.lit (.bool true)], args := [d1, d2, d3, d4, d5, d6, d7, d8, d9, d10] }
  | _ => none }
def fnCloneAgreesWithOriginalRow : OpenClaim := { program := "qxb6600130a", sum := "d231dcb1b377afa60693068bedb948d4647a7d1fc0b07f46b4024aafd6e25d73", func := "example.com/murmurant/murmurant/zzlaws_root_b1.FnCloneAgreesWithOriginal", spec := "fnCloneAgreesWithOriginal", apart := false }
def FnCloneAgreesWithOriginalSaid : Prop := fnCloneAgreesWithOriginalRow.holds Try.pinned (OpenSpec.ofChange fnCloneAgreesWithOriginalSpec)

/-- ITS FALSE NEIGHBOUR: 'it returns false'. Refute it at one input. -/
def fnCloneAgreesWithOriginalWrong : ChangeSpec := { name := "fnCloneAgreesWithOriginal", fn := fun _ => fun
  | [d1, d2, d3, d4, d5, d6, d7, d8, d9, d10] => { results := [.lit (.bool false)], args := [d1, d2, d3, d4, d5, d6, d7, d8, d9, d10] }
  | _ => none }
def FnCloneAgreesWithOriginalWrongFalsely : Prop := fnCloneAgreesWithOriginalRow.holds Try.pinned (OpenSpec.ofChange fnCloneAgreesWithOriginalWrong)

/-- 'zzlaws_root_b1.FnCloneSharesNothing': WHATEVER THE INPUT: true; the input reads as it did. -/
def fnCloneSharesNothingSpec : ChangeSpec := { name := "fnCloneSharesNothing", fn := fun _ => fun
  | [d1, d2, d3, d4, d5, d6, d7, d8, d9, d10] => { results := [.lit (.bool true)], args := [d1, d2, d3, d4, d5, d6, d7, d8, d9, d10] }
  | _ => none }
def fnCloneSharesNothingRow : OpenClaim := { program := "qxb6600130a", sum := "d231dcb1b377afa60693068bedb948d4647a7d1fc0b07f46b4024aafd6e25d73", func := "example.com/murmurant/murmurant/zzlaws_root_b1.FnCloneSharesNothing", spec := "fnCloneSharesNothing", apart := false }
def FnCloneSharesNothingSaid : Prop := fnCloneSharesNothingRow.holds Try.pinned (OpenSpec.ofChange fnCloneSharesNothingSpec)

/-- ITS FALSE NEIGHBOUR: 'it returns false'. Refute it at one input. -/
def fnCloneSharesNothingWrong : ChangeSpec := { name := "fnCloneSharesNothing", fn := fun _ => fun
  | [d1, d2, d3, d4, d5, d6, d7, d8, d9, d10] => { results := [.lit (.bool false)], args := [d1, d2, d3, d4, d5, d6, d7, d8, d9, d10] }
  | _ => none }
def FnCloneSharesNothingWrongFalsely : Prop := fnCloneSharesNothingRow.holds Try.pinned (OpenSpec.ofChange fnCloneSharesNothingWrong)

end Rows
end Go.Proofs.Qxb6600130a
