/-
  DERIVED. GIVEN WITH THE SEED: THE CARDS: each row of YtmffibpbjobhmaaGreatDoorRows.lean that lists a variable, with what it lists TIED to the program's text (the seventh form; the later family's looks); each row that meets fmt, with fmt's text TOLD by the authors' own Lean function (tested against real Go, not proved from fmt's source: count such statements apart). THE CARD IS WHAT COUNTS. Prove the row's statement (the work); the ties are given (YtmffibpbjobhmaaGreatDoorTie.lean); close each card by the builder's one call (the guide's Derived/Test/ToyasCard.lean, 'card_holds'). Laid BY PROGRAM, IN A SANDBOX (cutbox-door.mjs). By AI agents, Wed Nov 11 2026. No macro, syntax, notation, axiom, sorry.
-/
import Derived.Test.YtmffibpbjobhmaaGreatDoorRows
import GoSem.ClaimSeven
namespace Go.Proofs.YtmffibpbjobhmaaGreatDoor
namespace Rows

/-- THE TIED CARD OF 'laws.FnGjFlattenDeep'. -/
def fnGjFlattenDeepCard : Claim7 := { stood := { row := fnGjFlattenDeepRow, standIns := [], harness := (true, "29f187cc07ee5e7c4d8a36478adad33332fb644e8f67b7da2931b3b5dde03af2"), looks := true }, kinds := [], alts := [], laidByText := true, laidKinds := [.data, .data, .widerDeep, .widerDeep, .data, .data, .data, .data, .data, .data, .sentinel, .sentinel, .data, .data, .pinned, .pinned, .pinned], laidTests := true, laidLooks := .later }
def FnGjFlattenDeepCardSaid : Prop := Claim7.holds Tryz.pinned (.plain (OpenSpec.ofChange fnGjFlattenDeepSpec)) fnGjFlattenDeepCard

/-- THE TIED CARD OF 'laws.FnGjModifierExists'. -/
def fnGjModifierExistsCard : Claim7 := { stood := { row := fnGjModifierExistsRow, standIns := [], harness := (true, "29f187cc07ee5e7c4d8a36478adad33332fb644e8f67b7da2931b3b5dde03af2"), looks := true }, kinds := [], alts := [], laidByText := true, laidKinds := [.data, .data, .widerDeep, .widerDeep, .data, .data, .data, .data, .data, .data, .sentinel, .sentinel, .data, .data, .pinned, .pinned, .pinned], laidTests := true, laidLooks := .later }
def FnGjModifierExistsCardSaid : Prop := Claim7.holds Tryz.pinned (.plain (OpenSpec.ofChange fnGjModifierExistsSpec)) fnGjModifierExistsCard

/-- THE TIED CARD OF 'laws.FnGjQueryOpposite'. -/
def fnGjQueryOppositeCard : Claim7 := { stood := { row := fnGjQueryOppositeRow, standIns := [], harness := (true, "29f187cc07ee5e7c4d8a36478adad33332fb644e8f67b7da2931b3b5dde03af2"), looks := true }, kinds := [], alts := [], laidByText := true, laidKinds := [.data, .data, .widerDeep, .widerDeep, .data, .data, .data, .data, .data, .data, .sentinel, .sentinel, .data, .data, .pinned, .pinned, .pinned], laidTests := true, laidLooks := .later }
def FnGjQueryOppositeCardSaid : Prop := Claim7.holds Tryz.pinned (.plain (OpenSpec.ofChange fnGjQueryOppositeSpec)) fnGjQueryOppositeCard

/-- THE TIED CARD OF 'laws.FnGjObjectPathStar'. -/
def fnGjObjectPathStarCard : Claim7 := { stood := { row := fnGjObjectPathStarRow, standIns := [], harness := (true, "29f187cc07ee5e7c4d8a36478adad33332fb644e8f67b7da2931b3b5dde03af2"), looks := true }, kinds := [], alts := [], laidByText := true, laidKinds := [.data, .data, .widerDeep, .widerDeep, .data, .data, .data, .data, .data, .data, .sentinel, .sentinel, .data, .data, .pinned, .pinned, .pinned], laidTests := true, laidLooks := .later }
def FnGjObjectPathStarCardSaid : Prop := Claim7.holds Tryz.pinned (.plain (OpenSpec.ofChange fnGjObjectPathStarSpec)) fnGjObjectPathStarCard

/-- THE TIED CARD OF 'laws.FnGjGetNumber'. -/
def fnGjGetNumberCard : Claim7 := { stood := { row := fnGjGetNumberRow, standIns := [], harness := (true, "29f187cc07ee5e7c4d8a36478adad33332fb644e8f67b7da2931b3b5dde03af2"), looks := true }, kinds := [], alts := [], laidByText := true, laidKinds := [.data, .data, .widerDeep, .widerDeep, .data, .data, .data, .data, .data, .data, .sentinel, .sentinel, .data, .data, .pinned, .pinned, .pinned], laidTests := true, laidLooks := .later }
def FnGjGetNumberCardSaid : Prop := Claim7.holds Tryz.pinned (.plain (OpenSpec.ofChange fnGjGetNumberSpec)) fnGjGetNumberCard

/-- THE TIED CARD OF 'laws.FnSjPathGjson'. -/
def fnSjPathGjsonCard : Claim7 := { stood := { row := fnSjPathGjsonRow, standIns := [], harness := (true, "29f187cc07ee5e7c4d8a36478adad33332fb644e8f67b7da2931b3b5dde03af2"), looks := true }, kinds := [], alts := [], laidByText := true, laidKinds := [.data, .data, .widerDeep, .widerDeep, .data, .data, .data, .data, .data, .data, .sentinel, .sentinel, .data, .data, .pinned, .pinned, .pinned], laidTests := true, laidLooks := .later }
def FnSjPathGjsonCardSaid : Prop := Claim7.holds Tryz.pinned (.plain (OpenSpec.ofChange fnSjPathGjsonSpec)) fnSjPathGjsonCard

/-- THE TIED CARD OF 'laws.FnGjQuerySplit'. -/
def fnGjQuerySplitCard : Claim7 := { stood := { row := fnGjQuerySplitRow, standIns := [], harness := (true, "29f187cc07ee5e7c4d8a36478adad33332fb644e8f67b7da2931b3b5dde03af2"), looks := true }, kinds := [], alts := [], laidByText := true, laidKinds := [.data, .data, .widerDeep, .widerDeep, .data, .data, .data, .data, .data, .data, .sentinel, .sentinel, .data, .data, .pinned, .pinned, .pinned], laidTests := true, laidLooks := .later }
def FnGjQuerySplitCardSaid : Prop := Claim7.holds Tryz.pinned (.plain (OpenSpec.ofChange fnGjQuerySplitSpec)) fnGjQuerySplitCard

/-- THE SECOND FORM's CARD OF 'laws.FnGjFlattenDeep'. -/
def fnGjFlattenDeepUptoCard : Claim7 := { stood := { row := fnGjFlattenDeepUptoRow, standIns := [], harness := (true, "29f187cc07ee5e7c4d8a36478adad33332fb644e8f67b7da2931b3b5dde03af2"), looks := true }, kinds := [], alts := [], laidByText := true, laidKinds := [.data, .data, .widerDeep, .widerDeep, .data, .data, .data, .data, .data, .data, .sentinel, .sentinel, .data, .data, .pinned, .pinned, .pinned], laidTests := true, laidLooks := .later }
def FnGjFlattenDeepUptoCardSaid : Prop := Claim7.holds Tryz.pinned (.plain (OpenSpec.upto fnGjFlattenDeepSpec)) fnGjFlattenDeepUptoCard

/-- THE SECOND FORM's CARD OF 'laws.FnGjModifierExists'. -/
def fnGjModifierExistsUptoCard : Claim7 := { stood := { row := fnGjModifierExistsUptoRow, standIns := [], harness := (true, "29f187cc07ee5e7c4d8a36478adad33332fb644e8f67b7da2931b3b5dde03af2"), looks := true }, kinds := [], alts := [], laidByText := true, laidKinds := [.data, .data, .widerDeep, .widerDeep, .data, .data, .data, .data, .data, .data, .sentinel, .sentinel, .data, .data, .pinned, .pinned, .pinned], laidTests := true, laidLooks := .later }
def FnGjModifierExistsUptoCardSaid : Prop := Claim7.holds Tryz.pinned (.plain (OpenSpec.upto fnGjModifierExistsSpec)) fnGjModifierExistsUptoCard

/-- THE SECOND FORM's CARD OF 'laws.FnGjQueryOpposite'. -/
def fnGjQueryOppositeUptoCard : Claim7 := { stood := { row := fnGjQueryOppositeUptoRow, standIns := [], harness := (true, "29f187cc07ee5e7c4d8a36478adad33332fb644e8f67b7da2931b3b5dde03af2"), looks := true }, kinds := [], alts := [], laidByText := true, laidKinds := [.data, .data, .widerDeep, .widerDeep, .data, .data, .data, .data, .data, .data, .sentinel, .sentinel, .data, .data, .pinned, .pinned, .pinned], laidTests := true, laidLooks := .later }
def FnGjQueryOppositeUptoCardSaid : Prop := Claim7.holds Tryz.pinned (.plain (OpenSpec.upto fnGjQueryOppositeSpec)) fnGjQueryOppositeUptoCard

/-- THE SECOND FORM's CARD OF 'laws.FnGjObjectPathStar'. -/
def fnGjObjectPathStarUptoCard : Claim7 := { stood := { row := fnGjObjectPathStarUptoRow, standIns := [], harness := (true, "29f187cc07ee5e7c4d8a36478adad33332fb644e8f67b7da2931b3b5dde03af2"), looks := true }, kinds := [], alts := [], laidByText := true, laidKinds := [.data, .data, .widerDeep, .widerDeep, .data, .data, .data, .data, .data, .data, .sentinel, .sentinel, .data, .data, .pinned, .pinned, .pinned], laidTests := true, laidLooks := .later }
def FnGjObjectPathStarUptoCardSaid : Prop := Claim7.holds Tryz.pinned (.plain (OpenSpec.upto fnGjObjectPathStarSpec)) fnGjObjectPathStarUptoCard

/-- THE SECOND FORM's CARD OF 'laws.FnGjGetNumber'. -/
def fnGjGetNumberUptoCard : Claim7 := { stood := { row := fnGjGetNumberUptoRow, standIns := [], harness := (true, "29f187cc07ee5e7c4d8a36478adad33332fb644e8f67b7da2931b3b5dde03af2"), looks := true }, kinds := [], alts := [], laidByText := true, laidKinds := [.data, .data, .widerDeep, .widerDeep, .data, .data, .data, .data, .data, .data, .sentinel, .sentinel, .data, .data, .pinned, .pinned, .pinned], laidTests := true, laidLooks := .later }
def FnGjGetNumberUptoCardSaid : Prop := Claim7.holds Tryz.pinned (.plain (OpenSpec.upto fnGjGetNumberSpec)) fnGjGetNumberUptoCard

/-- THE SECOND FORM's CARD OF 'laws.FnSjPathGjson'. -/
def fnSjPathGjsonUptoCard : Claim7 := { stood := { row := fnSjPathGjsonUptoRow, standIns := [], harness := (true, "29f187cc07ee5e7c4d8a36478adad33332fb644e8f67b7da2931b3b5dde03af2"), looks := true }, kinds := [], alts := [], laidByText := true, laidKinds := [.data, .data, .widerDeep, .widerDeep, .data, .data, .data, .data, .data, .data, .sentinel, .sentinel, .data, .data, .pinned, .pinned, .pinned], laidTests := true, laidLooks := .later }
def FnSjPathGjsonUptoCardSaid : Prop := Claim7.holds Tryz.pinned (.plain (OpenSpec.upto fnSjPathGjsonSpec)) fnSjPathGjsonUptoCard

/-- THE SECOND FORM's CARD OF 'laws.FnGjQuerySplit'. -/
def fnGjQuerySplitUptoCard : Claim7 := { stood := { row := fnGjQuerySplitUptoRow, standIns := [], harness := (true, "29f187cc07ee5e7c4d8a36478adad33332fb644e8f67b7da2931b3b5dde03af2"), looks := true }, kinds := [], alts := [], laidByText := true, laidKinds := [.data, .data, .widerDeep, .widerDeep, .data, .data, .data, .data, .data, .data, .sentinel, .sentinel, .data, .data, .pinned, .pinned, .pinned], laidTests := true, laidLooks := .later }
def FnGjQuerySplitUptoCardSaid : Prop := Claim7.holds Tryz.pinned (.plain (OpenSpec.upto fnGjQuerySplitSpec)) fnGjQuerySplitUptoCard
end Rows
end Go.Proofs.YtmffibpbjobhmaaGreatDoor
