/-
  DERIVED. GIVEN WITH THE SEED: THE CARDS: each row of YtelmpcjaiplooaaGreatDoorRows.lean that lists a variable, with what it lists TIED to the program's text (the seventh form; the later family's looks); each row that meets fmt, with fmt's text TOLD by the authors' own Lean function (tested against real Go, not proved from fmt's source: count such statements apart). THE CARD IS WHAT COUNTS. Prove the row's statement (the work); the ties are given (YtelmpcjaiplooaaGreatDoorTie.lean); close each card by the builder's one call (the guide's Derived/Test/ToyasCard.lean, 'card_holds'). Laid BY PROGRAM, IN A SANDBOX (cutbox-door.mjs). By AI agents, Wed Nov 11 2026. No macro, syntax, notation, axiom, sorry.
-/
import Derived.Test.YtelmpcjaiplooaaGreatDoorRows
import GoSem.ClaimSeven
namespace Go.Proofs.YtelmpcjaiplooaaGreatDoor
namespace Rows

/-- THE TIED CARD OF 'laws.FnGjJoin'. -/
def fnGjJoinCard : Claim7 := { stood := { row := fnGjJoinRow, standIns := [], harness := (true, "70599a7c8a2ed568e990f60ee79442a09a8a33e4a6960fe3bf495a2d0924a2cc"), looks := true }, kinds := [], alts := [], laidByText := true, laidKinds := [.data, .data, .widerDeep, .widerDeep, .data, .data, .data, .data, .data, .data, .sentinel, .sentinel, .data, .data, .pinned, .pinned, .pinned], laidTests := true, laidLooks := .later }
def FnGjJoinCardSaid : Prop := Claim7.holds Tryz.pinned (.plain (OpenSpec.ofChange fnGjJoinSpec)) fnGjJoinCard

/-- THE TIED CARD OF 'laws.FnGjQueryNested'. -/
def fnGjQueryNestedCard : Claim7 := { stood := { row := fnGjQueryNestedRow, standIns := [], harness := (true, "70599a7c8a2ed568e990f60ee79442a09a8a33e4a6960fe3bf495a2d0924a2cc"), looks := true }, kinds := [], alts := [], laidByText := true, laidKinds := [.data, .data, .widerDeep, .widerDeep, .data, .data, .data, .data, .data, .data, .sentinel, .sentinel, .data, .data, .pinned, .pinned, .pinned], laidTests := true, laidLooks := .later }
def FnGjQueryNestedCardSaid : Prop := Claim7.holds Tryz.pinned (.plain (OpenSpec.ofChange fnGjQueryNestedSpec)) fnGjQueryNestedCard

/-- THE TIED CARD OF 'laws.FnGjEscapeFirst'. -/
def fnGjEscapeFirstCard : Claim7 := { stood := { row := fnGjEscapeFirstRow, standIns := [], harness := (true, "70599a7c8a2ed568e990f60ee79442a09a8a33e4a6960fe3bf495a2d0924a2cc"), looks := true }, kinds := [], alts := [], laidByText := true, laidKinds := [.data, .data, .widerDeep, .widerDeep, .data, .data, .data, .data, .data, .data, .sentinel, .sentinel, .data, .data, .pinned, .pinned, .pinned], laidTests := true, laidLooks := .later }
def FnGjEscapeFirstCardSaid : Prop := Claim7.holds Tryz.pinned (.plain (OpenSpec.ofChange fnGjEscapeFirstSpec)) fnGjEscapeFirstCard

/-- THE TIED CARD OF 'laws.FnGjSpecGet'. -/
def fnGjSpecGetCard : Claim7 := { stood := { row := fnGjSpecGetRow, standIns := [], harness := (true, "70599a7c8a2ed568e990f60ee79442a09a8a33e4a6960fe3bf495a2d0924a2cc"), looks := true }, kinds := [], alts := [], laidByText := true, laidKinds := [.data, .data, .widerDeep, .widerDeep, .data, .data, .data, .data, .data, .data, .sentinel, .sentinel, .data, .data, .pinned, .pinned, .pinned], laidTests := true, laidLooks := .later }
def FnGjSpecGetCardSaid : Prop := Claim7.holds Tryz.pinned (.plain (OpenSpec.ofChange fnGjSpecGetSpec)) fnGjSpecGetCard

/-- THE TIED CARD OF 'laws.FnGjGetMethods'. -/
def fnGjGetMethodsCard : Claim7 := { stood := { row := fnGjGetMethodsRow, standIns := [], harness := (true, "70599a7c8a2ed568e990f60ee79442a09a8a33e4a6960fe3bf495a2d0924a2cc"), looks := true }, kinds := [], alts := [], laidByText := true, laidKinds := [.data, .data, .widerDeep, .widerDeep, .data, .data, .data, .data, .data, .data, .sentinel, .sentinel, .data, .data, .pinned, .pinned, .pinned], laidTests := true, laidLooks := .later }
def FnGjGetMethodsCardSaid : Prop := Claim7.holds Tryz.pinned (.plain (OpenSpec.ofChange fnGjGetMethodsSpec)) fnGjGetMethodsCard

/-- THE TIED CARD OF 'laws.FnGjArrayNone'. -/
def fnGjArrayNoneCard : Claim7 := { stood := { row := fnGjArrayNoneRow, standIns := [], harness := (true, "70599a7c8a2ed568e990f60ee79442a09a8a33e4a6960fe3bf495a2d0924a2cc"), looks := true }, kinds := [], alts := [], laidByText := true, laidKinds := [.data, .data, .widerDeep, .widerDeep, .data, .data, .data, .data, .data, .data, .sentinel, .sentinel, .data, .data, .pinned, .pinned, .pinned], laidTests := true, laidLooks := .later }
def FnGjArrayNoneCardSaid : Prop := Claim7.holds Tryz.pinned (.plain (OpenSpec.ofChange fnGjArrayNoneSpec)) fnGjArrayNoneCard

/-- THE SECOND FORM's CARD OF 'laws.FnGjJoin'. -/
def fnGjJoinUptoCard : Claim7 := { stood := { row := fnGjJoinUptoRow, standIns := [], harness := (true, "70599a7c8a2ed568e990f60ee79442a09a8a33e4a6960fe3bf495a2d0924a2cc"), looks := true }, kinds := [], alts := [], laidByText := true, laidKinds := [.data, .data, .widerDeep, .widerDeep, .data, .data, .data, .data, .data, .data, .sentinel, .sentinel, .data, .data, .pinned, .pinned, .pinned], laidTests := true, laidLooks := .later }
def FnGjJoinUptoCardSaid : Prop := Claim7.holds Tryz.pinned (.plain (OpenSpec.upto fnGjJoinSpec)) fnGjJoinUptoCard

/-- THE SECOND FORM's CARD OF 'laws.FnGjQueryNested'. -/
def fnGjQueryNestedUptoCard : Claim7 := { stood := { row := fnGjQueryNestedUptoRow, standIns := [], harness := (true, "70599a7c8a2ed568e990f60ee79442a09a8a33e4a6960fe3bf495a2d0924a2cc"), looks := true }, kinds := [], alts := [], laidByText := true, laidKinds := [.data, .data, .widerDeep, .widerDeep, .data, .data, .data, .data, .data, .data, .sentinel, .sentinel, .data, .data, .pinned, .pinned, .pinned], laidTests := true, laidLooks := .later }
def FnGjQueryNestedUptoCardSaid : Prop := Claim7.holds Tryz.pinned (.plain (OpenSpec.upto fnGjQueryNestedSpec)) fnGjQueryNestedUptoCard

/-- THE SECOND FORM's CARD OF 'laws.FnGjEscapeFirst'. -/
def fnGjEscapeFirstUptoCard : Claim7 := { stood := { row := fnGjEscapeFirstUptoRow, standIns := [], harness := (true, "70599a7c8a2ed568e990f60ee79442a09a8a33e4a6960fe3bf495a2d0924a2cc"), looks := true }, kinds := [], alts := [], laidByText := true, laidKinds := [.data, .data, .widerDeep, .widerDeep, .data, .data, .data, .data, .data, .data, .sentinel, .sentinel, .data, .data, .pinned, .pinned, .pinned], laidTests := true, laidLooks := .later }
def FnGjEscapeFirstUptoCardSaid : Prop := Claim7.holds Tryz.pinned (.plain (OpenSpec.upto fnGjEscapeFirstSpec)) fnGjEscapeFirstUptoCard

/-- THE SECOND FORM's CARD OF 'laws.FnGjSpecGet'. -/
def fnGjSpecGetUptoCard : Claim7 := { stood := { row := fnGjSpecGetUptoRow, standIns := [], harness := (true, "70599a7c8a2ed568e990f60ee79442a09a8a33e4a6960fe3bf495a2d0924a2cc"), looks := true }, kinds := [], alts := [], laidByText := true, laidKinds := [.data, .data, .widerDeep, .widerDeep, .data, .data, .data, .data, .data, .data, .sentinel, .sentinel, .data, .data, .pinned, .pinned, .pinned], laidTests := true, laidLooks := .later }
def FnGjSpecGetUptoCardSaid : Prop := Claim7.holds Tryz.pinned (.plain (OpenSpec.upto fnGjSpecGetSpec)) fnGjSpecGetUptoCard

/-- THE SECOND FORM's CARD OF 'laws.FnGjGetMethods'. -/
def fnGjGetMethodsUptoCard : Claim7 := { stood := { row := fnGjGetMethodsUptoRow, standIns := [], harness := (true, "70599a7c8a2ed568e990f60ee79442a09a8a33e4a6960fe3bf495a2d0924a2cc"), looks := true }, kinds := [], alts := [], laidByText := true, laidKinds := [.data, .data, .widerDeep, .widerDeep, .data, .data, .data, .data, .data, .data, .sentinel, .sentinel, .data, .data, .pinned, .pinned, .pinned], laidTests := true, laidLooks := .later }
def FnGjGetMethodsUptoCardSaid : Prop := Claim7.holds Tryz.pinned (.plain (OpenSpec.upto fnGjGetMethodsSpec)) fnGjGetMethodsUptoCard

/-- THE SECOND FORM's CARD OF 'laws.FnGjArrayNone'. -/
def fnGjArrayNoneUptoCard : Claim7 := { stood := { row := fnGjArrayNoneUptoRow, standIns := [], harness := (true, "70599a7c8a2ed568e990f60ee79442a09a8a33e4a6960fe3bf495a2d0924a2cc"), looks := true }, kinds := [], alts := [], laidByText := true, laidKinds := [.data, .data, .widerDeep, .widerDeep, .data, .data, .data, .data, .data, .data, .sentinel, .sentinel, .data, .data, .pinned, .pinned, .pinned], laidTests := true, laidLooks := .later }
def FnGjArrayNoneUptoCardSaid : Prop := Claim7.holds Tryz.pinned (.plain (OpenSpec.upto fnGjArrayNoneSpec)) fnGjArrayNoneUptoCard
end Rows
end Go.Proofs.YtelmpcjaiplooaaGreatDoor
