/-
  DERIVED. GIVEN WITH THE SEED: THE CARDS: each row of YtmjeokabbmigjaaDoorRows.lean that lists a variable, with what it lists TIED to the program's text (the seventh form; the later family's looks); each row that meets fmt, with fmt's text TOLD by the authors' own Lean function (tested against real Go, not proved from fmt's source: count such statements apart). THE CARD IS WHAT COUNTS. Prove the row's statement (the work); the ties are given (YtmjeokabbmigjaaDoorTie.lean); close each card by the builder's one call (the guide's Derived/Test/ToyasCard.lean, 'card_holds'). Laid BY PROGRAM, IN A SANDBOX (cutbox-door.mjs). By AI agents, Wed Nov 11 2026. No macro, syntax, notation, axiom, sorry.
-/
import Derived.Test.YtmjeokabbmigjaaDoorRows
import GoSem.ClaimSeven
namespace Go.Proofs.YtmjeokabbmigjaaDoor
namespace Rows

/-- THE TIED CARD OF 'laws.FnLookupPackage'. -/
def fnLookupPackageCard : Claim7 := { stood := { row := fnLookupPackageRow, standIns := [], harness := (true, "3d1c4807103d189e3e9220383a52db55cb003bf5bf973b204e7366922b51c4a5"), looks := true }, kinds := [], alts := [], laidByText := true, laidKinds := [.widerDeep], laidTests := true, laidLooks := .later }
def FnLookupPackageCardSaid : Prop := Claim7.holds Tryd.pinned (.plain (OpenSpec.ofChange fnLookupPackageSpec)) fnLookupPackageCard

/-- THE TIED CARD OF 'laws.FnHeadingID'. -/
def fnHeadingIDCard : Claim7 := { stood := { row := fnHeadingIDRow, standIns := [], harness := (true, "3d1c4807103d189e3e9220383a52db55cb003bf5bf973b204e7366922b51c4a5"), looks := true }, kinds := [], alts := [], laidByText := true, laidKinds := [.data, .listed, .data, .pinned], laidTests := true, laidLooks := .later }
def FnHeadingIDCardSaid : Prop := Claim7.holds Tryd.pinned (.plain (OpenSpec.ofChange fnHeadingIDSpec)) fnHeadingIDCard

/-- THE TIED CARD OF 'laws.FnTextCode'. -/
def fnTextCodeCard : Claim7 := { stood := { row := fnTextCodeRow, standIns := [], harness := (true, "3d1c4807103d189e3e9220383a52db55cb003bf5bf973b204e7366922b51c4a5"), looks := true }, kinds := [], alts := [], laidByText := true, laidKinds := [.listed, .sentinel, .data], laidTests := true, laidLooks := .later }
def FnTextCodeCardSaid : Prop := Claim7.holds Tryd.pinned (.plain (OpenSpec.ofChange fnTextCodeSpec)) fnTextCodeCard

/-- THE TIED CARD OF 'laws.FnTextWords'. -/
def fnTextWordsCard : Claim7 := { stood := { row := fnTextWordsRow, standIns := [], harness := (true, "3d1c4807103d189e3e9220383a52db55cb003bf5bf973b204e7366922b51c4a5"), looks := true }, kinds := [], alts := [], laidByText := true, laidKinds := [.listed, .sentinel, .data], laidTests := true, laidLooks := .later }
def FnTextWordsCardSaid : Prop := Claim7.holds Tryd.pinned (.plain (OpenSpec.ofChange fnTextWordsSpec)) fnTextWordsCard

/-- THE TIED CARD OF 'laws.FnHTMLHead'. -/
def fnHTMLHeadCard : Claim7 := { stood := { row := fnHTMLHeadRow, standIns := [], harness := (true, "3d1c4807103d189e3e9220383a52db55cb003bf5bf973b204e7366922b51c4a5"), looks := true }, kinds := [], alts := [], laidByText := true, laidKinds := [.data, .data, .data, .data, .listed, .sentinel, .data, .pinned], laidTests := true, laidLooks := .later }
def FnHTMLHeadCardSaid : Prop := Claim7.holds Tryd.pinned (.plain (OpenSpec.ofChange fnHTMLHeadSpec)) fnHTMLHeadCard

/-- THE TIED CARD OF 'laws.FnHTMLPlain'. -/
def fnHTMLPlainCard : Claim7 := { stood := { row := fnHTMLPlainRow, standIns := [], harness := (true, "3d1c4807103d189e3e9220383a52db55cb003bf5bf973b204e7366922b51c4a5"), looks := true }, kinds := [], alts := [], laidByText := true, laidKinds := [.data, .data, .data, .data, .listed, .sentinel, .data, .pinned], laidTests := true, laidLooks := .later }
def FnHTMLPlainCardSaid : Prop := Claim7.holds Tryd.pinned (.plain (OpenSpec.ofChange fnHTMLPlainSpec)) fnHTMLPlainCard

/-- THE TIED CARD OF 'laws.FnMarkdownHead'. -/
def fnMarkdownHeadCard : Claim7 := { stood := { row := fnMarkdownHeadRow, standIns := [], harness := (true, "3d1c4807103d189e3e9220383a52db55cb003bf5bf973b204e7366922b51c4a5"), looks := true }, kinds := [], alts := [], laidByText := true, laidKinds := [.data, .listed, .sentinel, .data, .data, .pinned], laidTests := true, laidLooks := .later }
def FnMarkdownHeadCardSaid : Prop := Claim7.holds Tryd.pinned (.plain (OpenSpec.ofChange fnMarkdownHeadSpec)) fnMarkdownHeadCard

/-- THE SECOND FORM's CARD OF 'laws.FnLookupPackage'. -/
def fnLookupPackageUptoCard : Claim7 := { stood := { row := fnLookupPackageUptoRow, standIns := [], harness := (true, "3d1c4807103d189e3e9220383a52db55cb003bf5bf973b204e7366922b51c4a5"), looks := true }, kinds := [], alts := [], laidByText := true, laidKinds := [.widerDeep], laidTests := true, laidLooks := .later }
def FnLookupPackageUptoCardSaid : Prop := Claim7.holds Tryd.pinned (.plain (OpenSpec.upto fnLookupPackageSpec)) fnLookupPackageUptoCard

/-- THE SECOND FORM's CARD OF 'laws.FnHeadingID'. -/
def fnHeadingIDUptoCard : Claim7 := { stood := { row := fnHeadingIDUptoRow, standIns := [], harness := (true, "3d1c4807103d189e3e9220383a52db55cb003bf5bf973b204e7366922b51c4a5"), looks := true }, kinds := [], alts := [], laidByText := true, laidKinds := [.data, .listed, .data, .pinned], laidTests := true, laidLooks := .later }
def FnHeadingIDUptoCardSaid : Prop := Claim7.holds Tryd.pinned (.plain (OpenSpec.upto fnHeadingIDSpec)) fnHeadingIDUptoCard

/-- THE SECOND FORM's CARD OF 'laws.FnTextCode'. -/
def fnTextCodeUptoCard : Claim7 := { stood := { row := fnTextCodeUptoRow, standIns := [], harness := (true, "3d1c4807103d189e3e9220383a52db55cb003bf5bf973b204e7366922b51c4a5"), looks := true }, kinds := [], alts := [], laidByText := true, laidKinds := [.listed, .sentinel, .data], laidTests := true, laidLooks := .later }
def FnTextCodeUptoCardSaid : Prop := Claim7.holds Tryd.pinned (.plain (OpenSpec.upto fnTextCodeSpec)) fnTextCodeUptoCard

/-- THE SECOND FORM's CARD OF 'laws.FnTextWords'. -/
def fnTextWordsUptoCard : Claim7 := { stood := { row := fnTextWordsUptoRow, standIns := [], harness := (true, "3d1c4807103d189e3e9220383a52db55cb003bf5bf973b204e7366922b51c4a5"), looks := true }, kinds := [], alts := [], laidByText := true, laidKinds := [.listed, .sentinel, .data], laidTests := true, laidLooks := .later }
def FnTextWordsUptoCardSaid : Prop := Claim7.holds Tryd.pinned (.plain (OpenSpec.upto fnTextWordsSpec)) fnTextWordsUptoCard

/-- THE SECOND FORM's CARD OF 'laws.FnHTMLHead'. -/
def fnHTMLHeadUptoCard : Claim7 := { stood := { row := fnHTMLHeadUptoRow, standIns := [], harness := (true, "3d1c4807103d189e3e9220383a52db55cb003bf5bf973b204e7366922b51c4a5"), looks := true }, kinds := [], alts := [], laidByText := true, laidKinds := [.data, .data, .data, .data, .listed, .sentinel, .data, .pinned], laidTests := true, laidLooks := .later }
def FnHTMLHeadUptoCardSaid : Prop := Claim7.holds Tryd.pinned (.plain (OpenSpec.upto fnHTMLHeadSpec)) fnHTMLHeadUptoCard

/-- THE SECOND FORM's CARD OF 'laws.FnHTMLPlain'. -/
def fnHTMLPlainUptoCard : Claim7 := { stood := { row := fnHTMLPlainUptoRow, standIns := [], harness := (true, "3d1c4807103d189e3e9220383a52db55cb003bf5bf973b204e7366922b51c4a5"), looks := true }, kinds := [], alts := [], laidByText := true, laidKinds := [.data, .data, .data, .data, .listed, .sentinel, .data, .pinned], laidTests := true, laidLooks := .later }
def FnHTMLPlainUptoCardSaid : Prop := Claim7.holds Tryd.pinned (.plain (OpenSpec.upto fnHTMLPlainSpec)) fnHTMLPlainUptoCard

/-- THE SECOND FORM's CARD OF 'laws.FnMarkdownHead'. -/
def fnMarkdownHeadUptoCard : Claim7 := { stood := { row := fnMarkdownHeadUptoRow, standIns := [], harness := (true, "3d1c4807103d189e3e9220383a52db55cb003bf5bf973b204e7366922b51c4a5"), looks := true }, kinds := [], alts := [], laidByText := true, laidKinds := [.data, .listed, .sentinel, .data, .data, .pinned], laidTests := true, laidLooks := .later }
def FnMarkdownHeadUptoCardSaid : Prop := Claim7.holds Tryd.pinned (.plain (OpenSpec.upto fnMarkdownHeadSpec)) fnMarkdownHeadUptoCard
end Rows
end Go.Proofs.YtmjeokabbmigjaaDoor
