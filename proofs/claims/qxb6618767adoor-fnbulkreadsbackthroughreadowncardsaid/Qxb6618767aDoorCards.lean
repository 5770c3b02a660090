/-
  DERIVED. GIVEN WITH THE SEED: THE CARDS: each row of Qxb6618767aDoorRows.lean that lists a variable, with what it lists TIED to the program's text (the seventh form; the later family's looks); each row that meets fmt, with fmt's text TOLD by the authors' own Lean function (tested against real Go, not proved from fmt's source: count such statements apart). THE CARD IS WHAT COUNTS. Prove the row's statement (the work); the ties are given (Qxb6618767aDoorTie.lean); close each card by the builder's one call (the guide's Derived/Test/ToyasCard.lean, 'card_holds'). Laid BY PROGRAM, IN A SANDBOX (cutbox-door.mjs). By AI agents, Wed Nov 11 2026. No macro, syntax, notation, axiom, sorry.
-/
import Derived.Test.Qxb6618767aDoorRows
import GoSem.ClaimSeven
namespace Go.Proofs.Qxb6618767aDoor
namespace Rows

/-- THE TIED CARD OF 'zzlaws_resp_b1.FnBulkReadsBackThroughReadOwn'. -/
def fnBulkReadsBackThroughReadOwnCard : Claim7 := { stood := { row := fnBulkReadsBackThroughReadOwnRow, standIns := [], harness := (true, "5ff05b8b760fb1969d4259a33b25e70afc41bb811a4af63cca4a9447289c71c7"), looks := true }, kinds := [], alts := [], laidByText := true, laidKinds := [.data, .data, .data, .sentinel, .sentinel, .sentinel, .sentinel], laidTests := true, laidLooks := .later }
def FnBulkReadsBackThroughReadOwnCardSaid : Prop := Claim7.holds Tryd.pinned (.plain (OpenSpec.ofChange fnBulkReadsBackThroughReadOwnSpec)) fnBulkReadsBackThroughReadOwnCard

/-- THE TIED CARD OF 'zzlaws_resp_b1.FnBulkRepliesJoinAndMeasure'. -/
def fnBulkRepliesJoinAndMeasureCard : Claim7 := { stood := { row := fnBulkRepliesJoinAndMeasureRow, standIns := [], harness := (true, "5ff05b8b760fb1969d4259a33b25e70afc41bb811a4af63cca4a9447289c71c7"), looks := true }, kinds := [], alts := [], laidByText := true, laidKinds := [.data, .data, .data, .sentinel], laidTests := true, laidLooks := .later }
def FnBulkRepliesJoinAndMeasureCardSaid : Prop := Claim7.holds Tryd.pinned (.plain (OpenSpec.ofChange fnBulkRepliesJoinAndMeasureSpec)) fnBulkRepliesJoinAndMeasureCard

/-- THE TIED CARD OF 'zzlaws_resp_b1.FnNilArrayAgreesWithArrayMinusOne'. -/
def fnNilArrayAgreesWithArrayMinusOneCard : Claim7 := { stood := { row := fnNilArrayAgreesWithArrayMinusOneRow, standIns := [], harness := (true, "5ff05b8b760fb1969d4259a33b25e70afc41bb811a4af63cca4a9447289c71c7"), looks := true }, kinds := [], alts := [], laidByText := true, laidKinds := [.data, .data, .data, .sentinel], laidTests := true, laidLooks := .later }
def FnNilArrayAgreesWithArrayMinusOneCardSaid : Prop := Claim7.holds Tryd.pinned (.plain (OpenSpec.ofChange fnNilArrayAgreesWithArrayMinusOneSpec)) fnNilArrayAgreesWithArrayMinusOneCard

/-- THE TIED CARD OF 'zzlaws_resp_b1.FnNilArrayReadsAsCountMinusOneAndNoOther'. -/
def fnNilArrayReadsAsCountMinusOneAndNoOtherCard : Claim7 := { stood := { row := fnNilArrayReadsAsCountMinusOneAndNoOtherRow, standIns := [], harness := (true, "5ff05b8b760fb1969d4259a33b25e70afc41bb811a4af63cca4a9447289c71c7"), looks := true }, kinds := [], alts := [], laidByText := true, laidKinds := [.data, .data, .data, .sentinel], laidTests := true, laidLooks := .later }
def FnNilArrayReadsAsCountMinusOneAndNoOtherCardSaid : Prop := Claim7.holds Tryd.pinned (.plain (OpenSpec.ofChange fnNilArrayReadsAsCountMinusOneAndNoOtherSpec)) fnNilArrayReadsAsCountMinusOneAndNoOtherCard
end Rows
end Go.Proofs.Qxb6618767aDoor
