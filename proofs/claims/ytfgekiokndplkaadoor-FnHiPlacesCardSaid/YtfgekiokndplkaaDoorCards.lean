/-
  DERIVED. GIVEN WITH THE SEED: THE CARDS: each row of YtfgekiokndplkaaDoorRows.lean that lists a variable, with what it lists TIED to the program's text (the seventh form; the later family's looks); each row that meets fmt, with fmt's text TOLD by the authors' own Lean function (tested against real Go, not proved from fmt's source: count such statements apart). THE CARD IS WHAT COUNTS. Prove the row's statement (the work); the ties are given (YtfgekiokndplkaaDoorTie.lean); close each card by the builder's one call (the guide's Derived/Test/ToyasCard.lean, 'card_holds'). Laid BY PROGRAM, IN A SANDBOX (cutbox-door.mjs). By AI agents, Wed Nov 11 2026. No macro, syntax, notation, axiom, sorry.
-/
import Derived.Test.YtfgekiokndplkaaDoorRows
import GoSem.ClaimSeven
namespace Go.Proofs.YtfgekiokndplkaaDoor
namespace Rows

/-- THE TIED CARD OF 'laws.FnHiPlane'. -/
def fnHiPlaneCard : Claim7 := { stood := { row := fnHiPlaneRow, standIns := [], harness := (true, "6f3c4fdfb334f4264022e8450f51f776734d9ab0f2dec11b8335070e72d17fbb"), looks := true }, kinds := [], alts := [], laidByText := true, laidKinds := [.sentinel, .sentinel], laidTests := true, laidLooks := .later }
def FnHiPlaneCardSaid : Prop := Claim7.holds Tryd.pinned (.plain (OpenSpec.ofChange fnHiPlaneSpec)) fnHiPlaneCard

/-- THE TIED CARD OF 'laws.FnHiBack'. -/
def fnHiBackCard : Claim7 := { stood := { row := fnHiBackRow, standIns := [], harness := (true, "6f3c4fdfb334f4264022e8450f51f776734d9ab0f2dec11b8335070e72d17fbb"), looks := true }, kinds := [], alts := [], laidByText := true, laidKinds := [.sentinel, .sentinel], laidTests := true, laidLooks := .later }
def FnHiBackCardSaid : Prop := Claim7.holds Tryd.pinned (.plain (OpenSpec.ofChange fnHiBackSpec)) fnHiBackCard

/-- THE TIED CARD OF 'laws.FnHiPlaces'. -/
def fnHiPlacesCard : Claim7 := { stood := { row := fnHiPlacesRow, standIns := [], harness := (true, "6f3c4fdfb334f4264022e8450f51f776734d9ab0f2dec11b8335070e72d17fbb"), looks := true }, kinds := [], alts := [], laidByText := true, laidKinds := [.sentinel, .sentinel], laidTests := true, laidLooks := .later }
def FnHiPlacesCardSaid : Prop := Claim7.holds Tryd.pinned (.plain (OpenSpec.ofChange fnHiPlacesSpec)) fnHiPlacesCard

/-- THE TIED CARD OF 'laws.FnHuEach'. -/
def fnHuEachCard : Claim7 := { stood := { row := fnHuEachRow, standIns := [], harness := (true, "6f3c4fdfb334f4264022e8450f51f776734d9ab0f2dec11b8335070e72d17fbb"), looks := true }, kinds := [], alts := [], laidByText := true, laidKinds := [.sentinel], laidTests := true, laidLooks := .later }
def FnHuEachCardSaid : Prop := Claim7.holds Tryd.pinned (.plain (OpenSpec.ofChange fnHuEachSpec)) fnHuEachCard

/-- THE TIED CARD OF 'laws.FnHuFiner'. -/
def fnHuFinerCard : Claim7 := { stood := { row := fnHuFinerRow, standIns := [], harness := (true, "6f3c4fdfb334f4264022e8450f51f776734d9ab0f2dec11b8335070e72d17fbb"), looks := true }, kinds := [], alts := [], laidByText := true, laidKinds := [.sentinel], laidTests := true, laidLooks := .later }
def FnHuFinerCardSaid : Prop := Claim7.holds Tryd.pinned (.plain (OpenSpec.ofChange fnHuFinerSpec)) fnHuFinerCard

/-- THE TIED CARD OF 'laws.FnHuFresh'. -/
def fnHuFreshCard : Claim7 := { stood := { row := fnHuFreshRow, standIns := [], harness := (true, "6f3c4fdfb334f4264022e8450f51f776734d9ab0f2dec11b8335070e72d17fbb"), looks := true }, kinds := [], alts := [], laidByText := true, laidKinds := [.sentinel], laidTests := true, laidLooks := .later }
def FnHuFreshCardSaid : Prop := Claim7.holds Tryd.pinned (.plain (OpenSpec.ofChange fnHuFreshSpec)) fnHuFreshCard

/-- THE SECOND FORM's CARD OF 'laws.FnHiPlane'. -/
def fnHiPlaneUptoCard : Claim7 := { stood := { row := fnHiPlaneUptoRow, standIns := [], harness := (true, "6f3c4fdfb334f4264022e8450f51f776734d9ab0f2dec11b8335070e72d17fbb"), looks := true }, kinds := [], alts := [], laidByText := true, laidKinds := [.sentinel, .sentinel], laidTests := true, laidLooks := .later }
def FnHiPlaneUptoCardSaid : Prop := Claim7.holds Tryd.pinned (.plain (OpenSpec.upto fnHiPlaneSpec)) fnHiPlaneUptoCard

/-- THE SECOND FORM's CARD OF 'laws.FnHiBack'. -/
def fnHiBackUptoCard : Claim7 := { stood := { row := fnHiBackUptoRow, standIns := [], harness := (true, "6f3c4fdfb334f4264022e8450f51f776734d9ab0f2dec11b8335070e72d17fbb"), looks := true }, kinds := [], alts := [], laidByText := true, laidKinds := [.sentinel, .sentinel], laidTests := true, laidLooks := .later }
def FnHiBackUptoCardSaid : Prop := Claim7.holds Tryd.pinned (.plain (OpenSpec.upto fnHiBackSpec)) fnHiBackUptoCard

/-- THE SECOND FORM's CARD OF 'laws.FnHiPlaces'. -/
def fnHiPlacesUptoCard : Claim7 := { stood := { row := fnHiPlacesUptoRow, standIns := [], harness := (true, "6f3c4fdfb334f4264022e8450f51f776734d9ab0f2dec11b8335070e72d17fbb"), looks := true }, kinds := [], alts := [], laidByText := true, laidKinds := [.sentinel, .sentinel], laidTests := true, laidLooks := .later }
def FnHiPlacesUptoCardSaid : Prop := Claim7.holds Tryd.pinned (.plain (OpenSpec.upto fnHiPlacesSpec)) fnHiPlacesUptoCard

/-- THE SECOND FORM's CARD OF 'laws.FnHuEach'. -/
def fnHuEachUptoCard : Claim7 := { stood := { row := fnHuEachUptoRow, standIns := [], harness := (true, "6f3c4fdfb334f4264022e8450f51f776734d9ab0f2dec11b8335070e72d17fbb"), looks := true }, kinds := [], alts := [], laidByText := true, laidKinds := [.sentinel], laidTests := true, laidLooks := .later }
def FnHuEachUptoCardSaid : Prop := Claim7.holds Tryd.pinned (.plain (OpenSpec.upto fnHuEachSpec)) fnHuEachUptoCard

/-- THE SECOND FORM's CARD OF 'laws.FnHuFiner'. -/
def fnHuFinerUptoCard : Claim7 := { stood := { row := fnHuFinerUptoRow, standIns := [], harness := (true, "6f3c4fdfb334f4264022e8450f51f776734d9ab0f2dec11b8335070e72d17fbb"), looks := true }, kinds := [], alts := [], laidByText := true, laidKinds := [.sentinel], laidTests := true, laidLooks := .later }
def FnHuFinerUptoCardSaid : Prop := Claim7.holds Tryd.pinned (.plain (OpenSpec.upto fnHuFinerSpec)) fnHuFinerUptoCard

/-- THE SECOND FORM's CARD OF 'laws.FnHuFresh'. -/
def fnHuFreshUptoCard : Claim7 := { stood := { row := fnHuFreshUptoRow, standIns := [], harness := (true, "6f3c4fdfb334f4264022e8450f51f776734d9ab0f2dec11b8335070e72d17fbb"), looks := true }, kinds := [], alts := [], laidByText := true, laidKinds := [.sentinel], laidTests := true, laidLooks := .later }
def FnHuFreshUptoCardSaid : Prop := Claim7.holds Tryd.pinned (.plain (OpenSpec.upto fnHuFreshSpec)) fnHuFreshUptoCard
end Rows
end Go.Proofs.YtfgekiokndplkaaDoor
