/-
  DERIVED. GIVEN WITH THE SEED: THE CARDS: each row of Qxb6614591aFmtRows.lean that lists a variable, with what it lists TIED to the program's text (the seventh form; the later family's looks); each row that meets fmt, with fmt's text TOLD by the authors' own Lean function (tested against real Go, not proved from fmt's source: count such statements apart). THE CARD IS WHAT COUNTS. Prove the row's statement (the work); the ties are given (Qxb6614591aFmtTie.lean); close each card by the builder's one call (the guide's Derived/Test/ToyasCard.lean, 'card_holds'). Laid BY PROGRAM, IN A SANDBOX (cutbox-door.mjs). By AI agents, Wed Nov 11 2026. No macro, syntax, notation, axiom, sorry.
-/
import Derived.Test.Qxb6614591aFmtRows
import GoSem.ClaimSeven
namespace Go.Proofs.Qxb6614591aFmt
namespace Rows

/-- THE TOLD CARD OF 'zzlaws_internal_notice_b1.FnWindowEndExtensionsCompose'. -/
def fnWindowEndExtensionsComposeCard : Claim7 := { stood := { row := fnWindowEndExtensionsComposeRow, standIns := [], harness := (true, "eb9271ef940e82f1ca99c9e172fdf0dff96c23cd64e24e26c36de0555a6d1bed"), looks := false }, told := true, goes := false }
def FnWindowEndExtensionsComposeToldSaid : Prop := Claim7.holds Tryf.pinned (.plain (OpenSpec.ofChange fnWindowEndExtensionsComposeSpec)) fnWindowEndExtensionsComposeCard
/-- ITS FALSE NEIGHBOUR. Refute it at one input. -/
def FnWindowEndExtensionsComposeToldWrongFalsely : Prop := Claim7.holds Tryf.pinned (.plain (OpenSpec.ofChange fnWindowEndExtensionsComposeWrong)) fnWindowEndExtensionsComposeCard

/-- THE TOLD CARD OF 'zzlaws_internal_notice_b1.FnWindowEndGrowsByTheExtension'. -/
def fnWindowEndGrowsByTheExtensionCard : Claim7 := { stood := { row := fnWindowEndGrowsByTheExtensionRow, standIns := [], harness := (true, "eb9271ef940e82f1ca99c9e172fdf0dff96c23cd64e24e26c36de0555a6d1bed"), looks := false }, told := true, goes := false }
def FnWindowEndGrowsByTheExtensionToldSaid : Prop := Claim7.holds Tryf.pinned (.plain (OpenSpec.ofChange fnWindowEndGrowsByTheExtensionSpec)) fnWindowEndGrowsByTheExtensionCard
/-- ITS FALSE NEIGHBOUR. Refute it at one input. -/
def FnWindowEndGrowsByTheExtensionToldWrongFalsely : Prop := Claim7.holds Tryf.pinned (.plain (OpenSpec.ofChange fnWindowEndGrowsByTheExtensionWrong)) fnWindowEndGrowsByTheExtensionCard

/-- THE TOLD CARD OF 'zzlaws_internal_notice_b1.FnObjectCloseFailsUntilEveryMemberIsTaken'. -/
def fnObjectCloseFailsUntilEveryMemberIsTakenCard : Claim7 := { stood := { row := fnObjectCloseFailsUntilEveryMemberIsTakenRow, standIns := [], harness := (true, "eb9271ef940e82f1ca99c9e172fdf0dff96c23cd64e24e26c36de0555a6d1bed"), looks := false }, told := true, goes := false }
def FnObjectCloseFailsUntilEveryMemberIsTakenToldSaid : Prop := Claim7.holds Tryf.pinned (.plain (OpenSpec.ofChange fnObjectCloseFailsUntilEveryMemberIsTakenSpec)) fnObjectCloseFailsUntilEveryMemberIsTakenCard
/-- ITS FALSE NEIGHBOUR. Refute it at one input. -/
def FnObjectCloseFailsUntilEveryMemberIsTakenToldWrongFalsely : Prop := Claim7.holds Tryf.pinned (.plain (OpenSpec.ofChange fnObjectCloseFailsUntilEveryMemberIsTakenWrong)) fnObjectCloseFailsUntilEveryMemberIsTakenCard

/-- THE TOLD CARD OF 'zzlaws_internal_notice_b1.FnObjectCloseIgnoresATakenKeyPutInAnywhere'. -/
def fnObjectCloseIgnoresATakenKeyPutInAnywhereCard : Claim7 := { stood := { row := fnObjectCloseIgnoresATakenKeyPutInAnywhereRow, standIns := [], harness := (true, "eb9271ef940e82f1ca99c9e172fdf0dff96c23cd64e24e26c36de0555a6d1bed"), looks := false }, told := true, goes := false }
def FnObjectCloseIgnoresATakenKeyPutInAnywhereToldSaid : Prop := Claim7.holds Tryf.pinned (.plain (OpenSpec.ofChange fnObjectCloseIgnoresATakenKeyPutInAnywhereSpec)) fnObjectCloseIgnoresATakenKeyPutInAnywhereCard
/-- ITS FALSE NEIGHBOUR. Refute it at one input. -/
def FnObjectCloseIgnoresATakenKeyPutInAnywhereToldWrongFalsely : Prop := Claim7.holds Tryf.pinned (.plain (OpenSpec.ofChange fnObjectCloseIgnoresATakenKeyPutInAnywhereWrong)) fnObjectCloseIgnoresATakenKeyPutInAnywhereCard
end Rows
end Go.Proofs.Qxb6614591aFmt
