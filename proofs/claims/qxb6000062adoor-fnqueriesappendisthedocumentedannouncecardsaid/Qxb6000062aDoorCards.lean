/-
  DERIVED. GIVEN WITH THE SEED: THE CARDS: each row of Qxb6000062aDoorRows.lean that lists a variable, with what it lists TIED to the program's text (the seventh form; the later family's looks); each row that meets fmt, with fmt's text TOLD by the authors' own Lean function (tested against real Go, not proved from fmt's source: count such statements apart). THE CARD IS WHAT COUNTS. Prove the row's statement (the work); the ties are given (Qxb6000062aDoorTie.lean); close each card by the builder's one call (the guide's Derived/Test/ToyasCard.lean, 'card_holds'). Laid BY PROGRAM, IN A SANDBOX (cutbox-door.mjs). By AI agents, Wed Nov 11 2026. No macro, syntax, notation, axiom, sorry.
-/
import Derived.Test.Qxb6000062aDoorRows
import GoSem.ClaimSeven
namespace Go.Proofs.Qxb6000062aDoor
namespace Rows

/-- THE TIED CARD OF 'zzlaws_internal_load_b1.FnAppendPaddedIsZeroFilledDecimal'. -/
def fnAppendPaddedIsZeroFilledDecimalCard : Claim7 := { stood := { row := fnAppendPaddedIsZeroFilledDecimalRow, standIns := [], harness := (true, "215fb579dc3db395a99b84558dddc4ca3bfad86cbae8c7e93d510de7bf93e8e3"), looks := false }, kinds := [], alts := [], laidByText := true, laidKinds := [.data, .data, .data], laidTests := true, laidLooks := .later }
def FnAppendPaddedIsZeroFilledDecimalCardSaid : Prop := Claim7.holds Tryd.pinned (.plain (OpenSpec.ofChange fnAppendPaddedIsZeroFilledDecimalSpec)) fnAppendPaddedIsZeroFilledDecimalCard

/-- THE TIED CARD OF 'zzlaws_internal_load_b1.FnAppendPaddedOrdersLikeNumbers'. -/
def fnAppendPaddedOrdersLikeNumbersCard : Claim7 := { stood := { row := fnAppendPaddedOrdersLikeNumbersRow, standIns := [], harness := (true, "215fb579dc3db395a99b84558dddc4ca3bfad86cbae8c7e93d510de7bf93e8e3"), looks := false }, kinds := [], alts := [], laidByText := true, laidKinds := [.data, .data, .data], laidTests := true, laidLooks := .later }
def FnAppendPaddedOrdersLikeNumbersCardSaid : Prop := Claim7.holds Tryd.pinned (.plain (OpenSpec.ofChange fnAppendPaddedOrdersLikeNumbersSpec)) fnAppendPaddedOrdersLikeNumbersCard

/-- THE TIED CARD OF 'zzlaws_internal_load_b1.FnQueriesAppendIsTheDocumentedAnnounce'. -/
def fnQueriesAppendIsTheDocumentedAnnounceCard : Claim7 := { stood := { row := fnQueriesAppendIsTheDocumentedAnnounceRow, standIns := [], harness := (true, "215fb579dc3db395a99b84558dddc4ca3bfad86cbae8c7e93d510de7bf93e8e3"), looks := false }, kinds := [], alts := [], laidByText := true, laidKinds := [.data, .data, .data], laidTests := true, laidLooks := .later }
def FnQueriesAppendIsTheDocumentedAnnounceCardSaid : Prop := Claim7.holds Tryd.pinned (.plain (OpenSpec.ofChange fnQueriesAppendIsTheDocumentedAnnounceSpec)) fnQueriesAppendIsTheDocumentedAnnounceCard

/-- THE TIED CARD OF 'zzlaws_internal_load_b1.FnQueriesLaterRoundRepeatsFirstWithoutStarted'. -/
def fnQueriesLaterRoundRepeatsFirstWithoutStartedCard : Claim7 := { stood := { row := fnQueriesLaterRoundRepeatsFirstWithoutStartedRow, standIns := [], harness := (true, "215fb579dc3db395a99b84558dddc4ca3bfad86cbae8c7e93d510de7bf93e8e3"), looks := false }, kinds := [], alts := [], laidByText := true, laidKinds := [.data, .data, .data], laidTests := true, laidLooks := .later }
def FnQueriesLaterRoundRepeatsFirstWithoutStartedCardSaid : Prop := Claim7.holds Tryd.pinned (.plain (OpenSpec.ofChange fnQueriesLaterRoundRepeatsFirstWithoutStartedSpec)) fnQueriesLaterRoundRepeatsFirstWithoutStartedCard

/-- THE TIED CARD OF 'zzlaws_internal_load_b1.FnMeasurementRunStartsEachPeerOnceWithTwentyByteIDs'. -/
def fnMeasurementRunStartsEachPeerOnceWithTwentyByteIDsCard : Claim7 := { stood := { row := fnMeasurementRunStartsEachPeerOnceWithTwentyByteIDsRow, standIns := [], harness := (true, "215fb579dc3db395a99b84558dddc4ca3bfad86cbae8c7e93d510de7bf93e8e3"), looks := false }, kinds := [], alts := [], laidByText := true, laidKinds := [.data, .data, .data], laidTests := true, laidLooks := .later }
def FnMeasurementRunStartsEachPeerOnceWithTwentyByteIDsCardSaid : Prop := Claim7.holds Tryd.pinned (.plain (OpenSpec.ofChange fnMeasurementRunStartsEachPeerOnceWithTwentyByteIDsSpec)) fnMeasurementRunStartsEachPeerOnceWithTwentyByteIDsCard
end Rows
end Go.Proofs.Qxb6000062aDoor
