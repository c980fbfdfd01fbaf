/-
  DERIVED. GIVEN WITH THE SEED: THE CARDS: each row of Qxb6614442aDoorRows.lean that lists a variable, with what it lists TIED to the program's text (the seventh form; the later family's looks); each row that meets fmt, with fmt's text TOLD by the authors' own Lean function (tested against real Go, not proved from fmt's source: count such statements apart). THE CARD IS WHAT COUNTS. Prove the row's statement (the work); the ties are given (Qxb6614442aDoorTie.lean); close each card by the builder's one call (the guide's Derived/Test/ToyasCard.lean, 'card_holds'). Laid BY PROGRAM, IN A SANDBOX (cutbox-door.mjs). By AI agents, Wed Nov 11 2026. No macro, syntax, notation, axiom, sorry.
-/
import Derived.Test.Qxb6614442aDoorRows
import GoSem.ClaimSeven
namespace Go.Proofs.Qxb6614442aDoor
namespace Rows

/-- THE TIED CARD OF 'zzlaws_server_b1.FnInstancesReplyCutAnywhereAndDecodes'. -/
def fnInstancesReplyCutAnywhereAndDecodesCard : Claim7 := { stood := { row := fnInstancesReplyCutAnywhereAndDecodesRow, standIns := [], harness := (true, "0f29cdec97c35327a45ddcf6a6a8313ab26bb8898d71f68a84905744189a3126"), looks := true }, kinds := [], alts := [], laidByText := true, laidKinds := [.data, .data, .data, .sentinel], laidTests := true, laidLooks := .later }
def FnInstancesReplyCutAnywhereAndDecodesCardSaid : Prop := Claim7.holds Tryd.pinned (.plain (OpenSpec.ofChange fnInstancesReplyCutAnywhereAndDecodesSpec)) fnInstancesReplyCutAnywhereAndDecodesCard

/-- THE TIED CARD OF 'zzlaws_server_b1.FnWriteListIsInstancesReplyAfterItsHeader'. -/
def fnWriteListIsInstancesReplyAfterItsHeaderCard : Claim7 := { stood := { row := fnWriteListIsInstancesReplyAfterItsHeaderRow, standIns := [], harness := (true, "0f29cdec97c35327a45ddcf6a6a8313ab26bb8898d71f68a84905744189a3126"), looks := true }, kinds := [], alts := [], laidByText := true, laidKinds := [.data, .data, .data, .sentinel], laidTests := true, laidLooks := .later }
def FnWriteListIsInstancesReplyAfterItsHeaderCardSaid : Prop := Claim7.holds Tryd.pinned (.plain (OpenSpec.ofChange fnWriteListIsInstancesReplyAfterItsHeaderSpec)) fnWriteListIsInstancesReplyAfterItsHeaderCard

/-- THE TIED CARD OF 'zzlaws_server_b1.FnWriteListCutAnywhereEitherProto'. -/
def fnWriteListCutAnywhereEitherProtoCard : Claim7 := { stood := { row := fnWriteListCutAnywhereEitherProtoRow, standIns := [], harness := (true, "0f29cdec97c35327a45ddcf6a6a8313ab26bb8898d71f68a84905744189a3126"), looks := true }, kinds := [], alts := [], laidByText := true, laidKinds := [.data, .data, .data, .sentinel], laidTests := true, laidLooks := .later }
def FnWriteListCutAnywhereEitherProtoCardSaid : Prop := Claim7.holds Tryd.pinned (.plain (OpenSpec.ofChange fnWriteListCutAnywhereEitherProtoSpec)) fnWriteListCutAnywhereEitherProtoCard

/-- THE TIED CARD OF 'zzlaws_server_b1.FnRouteWriteElemsDecodesInElemsValues'. -/
def fnRouteWriteElemsDecodesInElemsValuesCard : Claim7 := { stood := { row := fnRouteWriteElemsDecodesInElemsValuesRow, standIns := [], harness := (true, "0f29cdec97c35327a45ddcf6a6a8313ab26bb8898d71f68a84905744189a3126"), looks := true }, kinds := [], alts := [], laidByText := true, laidKinds := [.data, .data, .data, .sentinel], laidTests := true, laidLooks := .later }
def FnRouteWriteElemsDecodesInElemsValuesCardSaid : Prop := Claim7.holds Tryd.pinned (.plain (OpenSpec.ofChange fnRouteWriteElemsDecodesInElemsValuesSpec)) fnRouteWriteElemsDecodesInElemsValuesCard

/-- THE TIED CARD OF 'zzlaws_server_b1.FnRouteWriteElemsSectionsAreIndependent'. -/
def fnRouteWriteElemsSectionsAreIndependentCard : Claim7 := { stood := { row := fnRouteWriteElemsSectionsAreIndependentRow, standIns := [], harness := (true, "0f29cdec97c35327a45ddcf6a6a8313ab26bb8898d71f68a84905744189a3126"), looks := true }, kinds := [], alts := [], laidByText := true, laidKinds := [.data, .data, .data, .sentinel], laidTests := true, laidLooks := .later }
def FnRouteWriteElemsSectionsAreIndependentCardSaid : Prop := Claim7.holds Tryd.pinned (.plain (OpenSpec.ofChange fnRouteWriteElemsSectionsAreIndependentSpec)) fnRouteWriteElemsSectionsAreIndependentCard
end Rows
end Go.Proofs.Qxb6614442aDoor
