/-
  DERIVED. GIVEN WITH THE SEED: THE CARDS: each row of YtbkookiigkckdaaGreatDoorRows.lean that lists a variable, with what it lists TIED to the program's text (the seventh form; the later family's looks); each row that meets fmt, with fmt's text TOLD by the authors' own Lean function (tested against real Go, not proved from fmt's source: count such statements apart). THE CARD IS WHAT COUNTS. Prove the row's statement (the work); the ties are given (YtbkookiigkckdaaGreatDoorTie.lean); close each card by the builder's one call (the guide's Derived/Test/ToyasCard.lean, 'card_holds'). Laid BY PROGRAM, IN A SANDBOX (cutbox-door.mjs). By AI agents, Wed Nov 11 2026. No macro, syntax, notation, axiom, sorry.
-/
import Derived.Test.YtbkookiigkckdaaGreatDoorRows
import GoSem.ClaimSeven
namespace Go.Proofs.YtbkookiigkckdaaGreatDoor
namespace Rows

/-- THE TIED CARD OF 'laws.FnMatcher'. -/
def fnMatcherCard : Claim7 := { stood := { row := fnMatcherRow, standIns := [], harness := (true, "2013f6a409768eab55667db855df5ae58df30dc7a0f573b2f9cf8a757ae4012f"), looks := true }, kinds := [], alts := [], laidByText := true, laidKinds := [.data, .sentinel, .data, .pinned, .pinned, .pinned, .pinned, .pinned, .pinned], laidTests := true, laidLooks := .later }
def FnMatcherCardSaid : Prop := Claim7.holds Tryz.pinned (.plain (OpenSpec.ofChange fnMatcherSpec)) fnMatcherCard

/-- THE TIED CARD OF 'laws.FnLabelsAbout'. -/
def fnLabelsAboutCard : Claim7 := { stood := { row := fnLabelsAboutRow, standIns := [], harness := (true, "2013f6a409768eab55667db855df5ae58df30dc7a0f573b2f9cf8a757ae4012f"), looks := true }, kinds := [], alts := [], laidByText := true, laidKinds := [.data, .sentinel, .sentinel, .pinned, .pinned, .pinned, .pinned, .pinned, .pinned], laidTests := true, laidLooks := .later }
def FnLabelsAboutCardSaid : Prop := Claim7.holds Tryz.pinned (.plain (OpenSpec.ofChange fnLabelsAboutSpec)) fnLabelsAboutCard

/-- THE TIED CARD OF 'laws.FnLabelsText'. -/
def fnLabelsTextCard : Claim7 := { stood := { row := fnLabelsTextRow, standIns := [], harness := (true, "2013f6a409768eab55667db855df5ae58df30dc7a0f573b2f9cf8a757ae4012f"), looks := true }, kinds := [], alts := [], laidByText := true, laidKinds := [.data, .sentinel, .sentinel, .pinned, .pinned, .pinned, .pinned, .pinned, .pinned], laidTests := true, laidLooks := .later }
def FnLabelsTextCardSaid : Prop := Claim7.holds Tryz.pinned (.plain (OpenSpec.ofChange fnLabelsTextSpec)) fnLabelsTextCard

/-- THE TIED CARD OF 'laws.FnLabelsTwice'. -/
def fnLabelsTwiceCard : Claim7 := { stood := { row := fnLabelsTwiceRow, standIns := [], harness := (true, "2013f6a409768eab55667db855df5ae58df30dc7a0f573b2f9cf8a757ae4012f"), looks := true }, kinds := [], alts := [], laidByText := true, laidKinds := [.data, .sentinel, .sentinel, .pinned, .pinned, .pinned, .pinned, .pinned, .pinned], laidTests := true, laidLooks := .later }
def FnLabelsTwiceCardSaid : Prop := Claim7.holds Tryz.pinned (.plain (OpenSpec.ofChange fnLabelsTwiceSpec)) fnLabelsTwiceCard

/-- THE TIED CARD OF 'laws.FnRecordAny'. -/
def fnRecordAnyCard : Claim7 := { stood := { row := fnRecordAnyRow, standIns := [], harness := (true, "2013f6a409768eab55667db855df5ae58df30dc7a0f573b2f9cf8a757ae4012f"), looks := true }, kinds := [], alts := [], laidByText := true, laidKinds := [.sentinel], laidTests := true, laidLooks := .later }
def FnRecordAnyCardSaid : Prop := Claim7.holds Tryz.pinned (.plain (OpenSpec.ofChange fnRecordAnySpec)) fnRecordAnyCard

/-- THE TIED CARD OF 'laws.FnRecordBack'. -/
def fnRecordBackCard : Claim7 := { stood := { row := fnRecordBackRow, standIns := [], harness := (true, "2013f6a409768eab55667db855df5ae58df30dc7a0f573b2f9cf8a757ae4012f"), looks := true }, kinds := [], alts := [], laidByText := true, laidKinds := [.sentinel], laidTests := true, laidLooks := .later }
def FnRecordBackCardSaid : Prop := Claim7.holds Tryz.pinned (.plain (OpenSpec.ofChange fnRecordBackSpec)) fnRecordBackCard

/-- THE TIED CARD OF 'laws.FnRecordBehind'. -/
def fnRecordBehindCard : Claim7 := { stood := { row := fnRecordBehindRow, standIns := [], harness := (true, "2013f6a409768eab55667db855df5ae58df30dc7a0f573b2f9cf8a757ae4012f"), looks := true }, kinds := [], alts := [], laidByText := true, laidKinds := [.sentinel], laidTests := true, laidLooks := .later }
def FnRecordBehindCardSaid : Prop := Claim7.holds Tryz.pinned (.plain (OpenSpec.ofChange fnRecordBehindSpec)) fnRecordBehindCard

/-- THE TIED CARD OF 'laws.FnRecordCut'. -/
def fnRecordCutCard : Claim7 := { stood := { row := fnRecordCutRow, standIns := [], harness := (true, "2013f6a409768eab55667db855df5ae58df30dc7a0f573b2f9cf8a757ae4012f"), looks := true }, kinds := [], alts := [], laidByText := true, laidKinds := [.sentinel], laidTests := true, laidLooks := .later }
def FnRecordCutCardSaid : Prop := Claim7.holds Tryz.pinned (.plain (OpenSpec.ofChange fnRecordCutSpec)) fnRecordCutCard

/-- THE TIED CARD OF 'laws.FnRecordOthers'. -/
def fnRecordOthersCard : Claim7 := { stood := { row := fnRecordOthersRow, standIns := [], harness := (true, "2013f6a409768eab55667db855df5ae58df30dc7a0f573b2f9cf8a757ae4012f"), looks := true }, kinds := [], alts := [], laidByText := true, laidKinds := [.sentinel], laidTests := true, laidLooks := .later }
def FnRecordOthersCardSaid : Prop := Claim7.holds Tryz.pinned (.plain (OpenSpec.ofChange fnRecordOthersSpec)) fnRecordOthersCard

/-- THE TIED CARD OF 'laws.FnRecordType'. -/
def fnRecordTypeCard : Claim7 := { stood := { row := fnRecordTypeRow, standIns := [], harness := (true, "2013f6a409768eab55667db855df5ae58df30dc7a0f573b2f9cf8a757ae4012f"), looks := true }, kinds := [], alts := [], laidByText := true, laidKinds := [.sentinel], laidTests := true, laidLooks := .later }
def FnRecordTypeCardSaid : Prop := Claim7.holds Tryz.pinned (.plain (OpenSpec.ofChange fnRecordTypeSpec)) fnRecordTypeCard

/-- THE TIED CARD OF 'laws.FnRecordLabels'. -/
def fnRecordLabelsCard : Claim7 := { stood := { row := fnRecordLabelsRow, standIns := [], harness := (true, "2013f6a409768eab55667db855df5ae58df30dc7a0f573b2f9cf8a757ae4012f"), looks := true }, kinds := [], alts := [], laidByText := true, laidKinds := [.sentinel], laidTests := true, laidLooks := .later }
def FnRecordLabelsCardSaid : Prop := Claim7.holds Tryz.pinned (.plain (OpenSpec.ofChange fnRecordLabelsSpec)) fnRecordLabelsCard

/-- THE TIED CARD OF 'laws.FnRecordMetrics'. -/
def fnRecordMetricsCard : Claim7 := { stood := { row := fnRecordMetricsRow, standIns := [], harness := (true, "2013f6a409768eab55667db855df5ae58df30dc7a0f573b2f9cf8a757ae4012f"), looks := true }, kinds := [], alts := [], laidByText := true, laidKinds := [.sentinel], laidTests := true, laidLooks := .later }
def FnRecordMetricsCardSaid : Prop := Claim7.holds Tryz.pinned (.plain (OpenSpec.ofChange fnRecordMetricsSpec)) fnRecordMetricsCard

/-- THE SECOND FORM's CARD OF 'laws.FnMatcher'. -/
def fnMatcherUptoCard : Claim7 := { stood := { row := fnMatcherUptoRow, standIns := [], harness := (true, "2013f6a409768eab55667db855df5ae58df30dc7a0f573b2f9cf8a757ae4012f"), looks := true }, kinds := [], alts := [], laidByText := true, laidKinds := [.data, .sentinel, .data, .pinned, .pinned, .pinned, .pinned, .pinned, .pinned], laidTests := true, laidLooks := .later }
def FnMatcherUptoCardSaid : Prop := Claim7.holds Tryz.pinned (.plain (OpenSpec.upto fnMatcherSpec)) fnMatcherUptoCard

/-- THE SECOND FORM's CARD OF 'laws.FnLabelsAbout'. -/
def fnLabelsAboutUptoCard : Claim7 := { stood := { row := fnLabelsAboutUptoRow, standIns := [], harness := (true, "2013f6a409768eab55667db855df5ae58df30dc7a0f573b2f9cf8a757ae4012f"), looks := true }, kinds := [], alts := [], laidByText := true, laidKinds := [.data, .sentinel, .sentinel, .pinned, .pinned, .pinned, .pinned, .pinned, .pinned], laidTests := true, laidLooks := .later }
def FnLabelsAboutUptoCardSaid : Prop := Claim7.holds Tryz.pinned (.plain (OpenSpec.upto fnLabelsAboutSpec)) fnLabelsAboutUptoCard

/-- THE SECOND FORM's CARD OF 'laws.FnLabelsText'. -/
def fnLabelsTextUptoCard : Claim7 := { stood := { row := fnLabelsTextUptoRow, standIns := [], harness := (true, "2013f6a409768eab55667db855df5ae58df30dc7a0f573b2f9cf8a757ae4012f"), looks := true }, kinds := [], alts := [], laidByText := true, laidKinds := [.data, .sentinel, .sentinel, .pinned, .pinned, .pinned, .pinned, .pinned, .pinned], laidTests := true, laidLooks := .later }
def FnLabelsTextUptoCardSaid : Prop := Claim7.holds Tryz.pinned (.plain (OpenSpec.upto fnLabelsTextSpec)) fnLabelsTextUptoCard

/-- THE SECOND FORM's CARD OF 'laws.FnLabelsTwice'. -/
def fnLabelsTwiceUptoCard : Claim7 := { stood := { row := fnLabelsTwiceUptoRow, standIns := [], harness := (true, "2013f6a409768eab55667db855df5ae58df30dc7a0f573b2f9cf8a757ae4012f"), looks := true }, kinds := [], alts := [], laidByText := true, laidKinds := [.data, .sentinel, .sentinel, .pinned, .pinned, .pinned, .pinned, .pinned, .pinned], laidTests := true, laidLooks := .later }
def FnLabelsTwiceUptoCardSaid : Prop := Claim7.holds Tryz.pinned (.plain (OpenSpec.upto fnLabelsTwiceSpec)) fnLabelsTwiceUptoCard

/-- THE SECOND FORM's CARD OF 'laws.FnRecordAny'. -/
def fnRecordAnyUptoCard : Claim7 := { stood := { row := fnRecordAnyUptoRow, standIns := [], harness := (true, "2013f6a409768eab55667db855df5ae58df30dc7a0f573b2f9cf8a757ae4012f"), looks := true }, kinds := [], alts := [], laidByText := true, laidKinds := [.sentinel], laidTests := true, laidLooks := .later }
def FnRecordAnyUptoCardSaid : Prop := Claim7.holds Tryz.pinned (.plain (OpenSpec.upto fnRecordAnySpec)) fnRecordAnyUptoCard

/-- THE SECOND FORM's CARD OF 'laws.FnRecordBack'. -/
def fnRecordBackUptoCard : Claim7 := { stood := { row := fnRecordBackUptoRow, standIns := [], harness := (true, "2013f6a409768eab55667db855df5ae58df30dc7a0f573b2f9cf8a757ae4012f"), looks := true }, kinds := [], alts := [], laidByText := true, laidKinds := [.sentinel], laidTests := true, laidLooks := .later }
def FnRecordBackUptoCardSaid : Prop := Claim7.holds Tryz.pinned (.plain (OpenSpec.upto fnRecordBackSpec)) fnRecordBackUptoCard

/-- THE SECOND FORM's CARD OF 'laws.FnRecordBehind'. -/
def fnRecordBehindUptoCard : Claim7 := { stood := { row := fnRecordBehindUptoRow, standIns := [], harness := (true, "2013f6a409768eab55667db855df5ae58df30dc7a0f573b2f9cf8a757ae4012f"), looks := true }, kinds := [], alts := [], laidByText := true, laidKinds := [.sentinel], laidTests := true, laidLooks := .later }
def FnRecordBehindUptoCardSaid : Prop := Claim7.holds Tryz.pinned (.plain (OpenSpec.upto fnRecordBehindSpec)) fnRecordBehindUptoCard

/-- THE SECOND FORM's CARD OF 'laws.FnRecordCut'. -/
def fnRecordCutUptoCard : Claim7 := { stood := { row := fnRecordCutUptoRow, standIns := [], harness := (true, "2013f6a409768eab55667db855df5ae58df30dc7a0f573b2f9cf8a757ae4012f"), looks := true }, kinds := [], alts := [], laidByText := true, laidKinds := [.sentinel], laidTests := true, laidLooks := .later }
def FnRecordCutUptoCardSaid : Prop := Claim7.holds Tryz.pinned (.plain (OpenSpec.upto fnRecordCutSpec)) fnRecordCutUptoCard

/-- THE SECOND FORM's CARD OF 'laws.FnRecordOthers'. -/
def fnRecordOthersUptoCard : Claim7 := { stood := { row := fnRecordOthersUptoRow, standIns := [], harness := (true, "2013f6a409768eab55667db855df5ae58df30dc7a0f573b2f9cf8a757ae4012f"), looks := true }, kinds := [], alts := [], laidByText := true, laidKinds := [.sentinel], laidTests := true, laidLooks := .later }
def FnRecordOthersUptoCardSaid : Prop := Claim7.holds Tryz.pinned (.plain (OpenSpec.upto fnRecordOthersSpec)) fnRecordOthersUptoCard

/-- THE SECOND FORM's CARD OF 'laws.FnRecordType'. -/
def fnRecordTypeUptoCard : Claim7 := { stood := { row := fnRecordTypeUptoRow, standIns := [], harness := (true, "2013f6a409768eab55667db855df5ae58df30dc7a0f573b2f9cf8a757ae4012f"), looks := true }, kinds := [], alts := [], laidByText := true, laidKinds := [.sentinel], laidTests := true, laidLooks := .later }
def FnRecordTypeUptoCardSaid : Prop := Claim7.holds Tryz.pinned (.plain (OpenSpec.upto fnRecordTypeSpec)) fnRecordTypeUptoCard

/-- THE SECOND FORM's CARD OF 'laws.FnRecordLabels'. -/
def fnRecordLabelsUptoCard : Claim7 := { stood := { row := fnRecordLabelsUptoRow, standIns := [], harness := (true, "2013f6a409768eab55667db855df5ae58df30dc7a0f573b2f9cf8a757ae4012f"), looks := true }, kinds := [], alts := [], laidByText := true, laidKinds := [.sentinel], laidTests := true, laidLooks := .later }
def FnRecordLabelsUptoCardSaid : Prop := Claim7.holds Tryz.pinned (.plain (OpenSpec.upto fnRecordLabelsSpec)) fnRecordLabelsUptoCard

/-- THE SECOND FORM's CARD OF 'laws.FnRecordMetrics'. -/
def fnRecordMetricsUptoCard : Claim7 := { stood := { row := fnRecordMetricsUptoRow, standIns := [], harness := (true, "2013f6a409768eab55667db855df5ae58df30dc7a0f573b2f9cf8a757ae4012f"), looks := true }, kinds := [], alts := [], laidByText := true, laidKinds := [.sentinel], laidTests := true, laidLooks := .later }
def FnRecordMetricsUptoCardSaid : Prop := Claim7.holds Tryz.pinned (.plain (OpenSpec.upto fnRecordMetricsSpec)) fnRecordMetricsUptoCard
end Rows
end Go.Proofs.YtbkookiigkckdaaGreatDoor
