/-
  DERIVED. GIVEN WITH THE SEED: THE CARDS: each row of YtfonpcfcelahdaaDoorRows.lean that lists a variable, with what it lists TIED to the program's text (the seventh form; the later family's looks); each row that meets fmt, with fmt's text TOLD by the authors' own Lean function (tested against real Go, not proved from fmt's source: count such statements apart). THE CARD IS WHAT COUNTS. Prove the row's statement (the work); the ties are given (YtfonpcfcelahdaaDoorTie.lean); close each card by the builder's one call (the guide's Derived/Test/ToyasCard.lean, 'card_holds'). Laid BY PROGRAM, IN A SANDBOX (cutbox-door.mjs). By AI agents, Wed Nov 11 2026. No macro, syntax, notation, axiom, sorry.
-/
import Derived.Test.YtfonpcfcelahdaaDoorRows
import GoSem.ClaimSeven
namespace Go.Proofs.YtfonpcfcelahdaaDoor
namespace Rows

/-- THE TIED CARD OF 'laws.FnDecode'. -/
def fnDecodeCard : Claim7 := { stood := { row := fnDecodeRow, standIns := [], harness := (true, "b9078c905905d09f763b41246d608eeb4282b2beddd39bdfc72c4585de59ba10"), looks := true }, kinds := [], alts := [], laidByText := true, laidKinds := [.handle, .sentinel], laidTests := true, laidLooks := .later }
def FnDecodeCardSaid : Prop := Claim7.holds Tryd.pinned (.plain (OpenSpec.ofChange fnDecodeSpec)) fnDecodeCard

/-- THE TIED CARD OF 'laws.FnParts'. -/
def fnPartsCard : Claim7 := { stood := { row := fnPartsRow, standIns := [], harness := (true, "b9078c905905d09f763b41246d608eeb4282b2beddd39bdfc72c4585de59ba10"), looks := true }, kinds := [], alts := [], laidByText := true, laidKinds := [.handle, .sentinel], laidTests := true, laidLooks := .later }
def FnPartsCardSaid : Prop := Claim7.holds Tryd.pinned (.plain (OpenSpec.ofChange fnPartsSpec)) fnPartsCard

/-- THE TIED CARD OF 'laws.FnRoad'. -/
def fnRoadCard : Claim7 := { stood := { row := fnRoadRow, standIns := [], harness := (true, "b9078c905905d09f763b41246d608eeb4282b2beddd39bdfc72c4585de59ba10"), looks := true }, kinds := [], alts := [], laidByText := true, laidKinds := [.sentinel], laidTests := true, laidLooks := .later }
def FnRoadCardSaid : Prop := Claim7.holds Tryd.pinned (.plain (OpenSpec.ofChange fnRoadSpec)) fnRoadCard

/-- THE TIED CARD OF 'laws.FnWrong'. -/
def fnWrongCard : Claim7 := { stood := { row := fnWrongRow, standIns := [], harness := (true, "b9078c905905d09f763b41246d608eeb4282b2beddd39bdfc72c4585de59ba10"), looks := true }, kinds := [], alts := [], laidByText := true, laidKinds := [.handle, .sentinel], laidTests := true, laidLooks := .later }
def FnWrongCardSaid : Prop := Claim7.holds Tryd.pinned (.plain (OpenSpec.ofChange fnWrongSpec)) fnWrongCard

/-- THE SECOND FORM's CARD OF 'laws.FnDecode'. -/
def fnDecodeUptoCard : Claim7 := { stood := { row := fnDecodeUptoRow, standIns := [], harness := (true, "b9078c905905d09f763b41246d608eeb4282b2beddd39bdfc72c4585de59ba10"), looks := true }, kinds := [], alts := [], laidByText := true, laidKinds := [.handle, .sentinel], laidTests := true, laidLooks := .later }
def FnDecodeUptoCardSaid : Prop := Claim7.holds Tryd.pinned (.plain (OpenSpec.upto fnDecodeSpec)) fnDecodeUptoCard

/-- THE SECOND FORM's CARD OF 'laws.FnParts'. -/
def fnPartsUptoCard : Claim7 := { stood := { row := fnPartsUptoRow, standIns := [], harness := (true, "b9078c905905d09f763b41246d608eeb4282b2beddd39bdfc72c4585de59ba10"), looks := true }, kinds := [], alts := [], laidByText := true, laidKinds := [.handle, .sentinel], laidTests := true, laidLooks := .later }
def FnPartsUptoCardSaid : Prop := Claim7.holds Tryd.pinned (.plain (OpenSpec.upto fnPartsSpec)) fnPartsUptoCard

/-- THE SECOND FORM's CARD OF 'laws.FnRoad'. -/
def fnRoadUptoCard : Claim7 := { stood := { row := fnRoadUptoRow, standIns := [], harness := (true, "b9078c905905d09f763b41246d608eeb4282b2beddd39bdfc72c4585de59ba10"), looks := true }, kinds := [], alts := [], laidByText := true, laidKinds := [.sentinel], laidTests := true, laidLooks := .later }
def FnRoadUptoCardSaid : Prop := Claim7.holds Tryd.pinned (.plain (OpenSpec.upto fnRoadSpec)) fnRoadUptoCard

/-- THE SECOND FORM's CARD OF 'laws.FnWrong'. -/
def fnWrongUptoCard : Claim7 := { stood := { row := fnWrongUptoRow, standIns := [], harness := (true, "b9078c905905d09f763b41246d608eeb4282b2beddd39bdfc72c4585de59ba10"), looks := true }, kinds := [], alts := [], laidByText := true, laidKinds := [.handle, .sentinel], laidTests := true, laidLooks := .later }
def FnWrongUptoCardSaid : Prop := Claim7.holds Tryd.pinned (.plain (OpenSpec.upto fnWrongSpec)) fnWrongUptoCard
end Rows
end Go.Proofs.YtfonpcfcelahdaaDoor
