/-
  No cell of these rows narrows 'for every input' (looked for: loops, veiled, ifaces, maps, wideKeys, modest, calm, conditions, laid).
  DERIVED. THE GIVEN ROWS OF THIS SEAT. 4 by the template 'for every input the law returns true; each argument reads behind the call as it read before'; 0 by the template 'total and deterministic' (their statements: Qxb6614591aFmtTotals.lean).
  GIVEN WITH THE SEED: the statements are not yours to turn. If you find one false, say at which input.
  Laid BY PROGRAM, IN A SANDBOX (cutbox-rows.mjs): the forced cells as the released guide's own fill.sh prints them over the translation 93b3e675f62c53e0… (all of the seat's roots in one cut). By AI agents, Wed Nov 11 2026. No macro, syntax, notation, axiom, sorry.
-/
import Derived.Test.Qxb6614591aFmtChecked
import GoSem.Claim
import GoSem.ClaimJoined
import GoSem.ClaimMapViews
import Derived.JoinedTies
import Derived.KernelRfl
namespace Go.Proofs.Qxb6614591aFmt
/- THE CELL 'sum', in the pinned program and in every row, IS THE sha256 OF THE DUMP (.gsa) THAT Qxb6614591aFmtProg.lean LOADS. Nothing in Lean hashes anything: it is a label: what it is worth is what the hold of that sum in a sandbox is worth. -/
noncomputable def Tryf.pinned : Pinned := { name := "qxb6614591afmt", sum := "93b3e675f62c53e0a1b1d3c27cb9cb11fc7335f192b205b3f678236644761116", checked := Tryf.checked }
namespace Rows
def none {H : Type} : Left H := { results := [], args := [] }

/-- 'zzlaws_internal_notice_b1.FnWindowEndExtensionsCompose': WHATEVER THE INPUT: true; the input reads as it did. -/
def fnWindowEndExtensionsComposeSpec : ChangeSpec := { name := "fnWindowEndExtensionsCompose", fn := fun _ => fun
  | [d1, d2, d3] => { results := [.lit (.bool true)], args := [d1, d2, d3] }
  | _ => none }
def fnWindowEndExtensionsComposeRow : OpenClaim := { program := "qxb6614591afmt", sum := "93b3e675f62c53e0a1b1d3c27cb9cb11fc7335f192b205b3f678236644761116", func := "example.com/stopout/stopout/zzlaws_internal_notice_b1.FnWindowEndExtensionsCompose", spec := "fnWindowEndExtensionsCompose", stops := ["fmt.Sprintf", "fmt.errorf"], inPlace := ["fmt.Sprintf"], apart := false }
/-- NO THEOREM (fmt's text is open here; it may be false): for the released tool's asking of the row's closed facts alone. THE STATEMENT IS 'FnWindowEndExtensionsComposeToldSaid' (Qxb6614591aFmtCards.lean). -/
def FnWindowEndExtensionsComposeFormAsk : Prop := fnWindowEndExtensionsComposeRow.holds Tryf.pinned (OpenSpec.ofChange fnWindowEndExtensionsComposeSpec)

/-- ITS FALSE NEIGHBOUR: 'it returns false'. Refute it at one input. -/
def fnWindowEndExtensionsComposeWrong : ChangeSpec := { name := "fnWindowEndExtensionsCompose", fn := fun _ => fun
  | [d1, d2, d3] => { results := [.lit (.bool false)], args := [d1, d2, d3] }
  | _ => none }
def FnWindowEndExtensionsComposeWrongFormAsk : Prop := fnWindowEndExtensionsComposeRow.holds Tryf.pinned (OpenSpec.ofChange fnWindowEndExtensionsComposeWrong)

/-- 'zzlaws_internal_notice_b1.FnWindowEndGrowsByTheExtension': WHATEVER THE INPUT: true; the input reads as it did. -/
def fnWindowEndGrowsByTheExtensionSpec : ChangeSpec := { name := "fnWindowEndGrowsByTheExtension", fn := fun _ => fun
  | [d1, d2, d3] => { results := [.lit (.bool true)], args := [d1, d2, d3] }
  | _ => none }
def fnWindowEndGrowsByTheExtensionRow : OpenClaim := { program := "qxb6614591afmt", sum := "93b3e675f62c53e0a1b1d3c27cb9cb11fc7335f192b205b3f678236644761116", func := "example.com/stopout/stopout/zzlaws_internal_notice_b1.FnWindowEndGrowsByTheExtension", spec := "fnWindowEndGrowsByTheExtension", stops := ["fmt.Sprintf", "fmt.errorf"], inPlace := ["fmt.Sprintf"], apart := false }
/-- NO THEOREM (fmt's text is open here; it may be false): for the released tool's asking of the row's closed facts alone. THE STATEMENT IS 'FnWindowEndGrowsByTheExtensionToldSaid' (Qxb6614591aFmtCards.lean). -/
def FnWindowEndGrowsByTheExtensionFormAsk : Prop := fnWindowEndGrowsByTheExtensionRow.holds Tryf.pinned (OpenSpec.ofChange fnWindowEndGrowsByTheExtensionSpec)

/-- ITS FALSE NEIGHBOUR: 'it returns false'. Refute it at one input. -/
def fnWindowEndGrowsByTheExtensionWrong : ChangeSpec := { name := "fnWindowEndGrowsByTheExtension", fn := fun _ => fun
  | [d1, d2, d3] => { results := [.lit (.bool false)], args := [d1, d2, d3] }
  | _ => none }
def FnWindowEndGrowsByTheExtensionWrongFormAsk : Prop := fnWindowEndGrowsByTheExtensionRow.holds Tryf.pinned (OpenSpec.ofChange fnWindowEndGrowsByTheExtensionWrong)

/-- 'zzlaws_internal_notice_b1.FnObjectCloseFailsUntilEveryMemberIsTaken': WHATEVER THE INPUT: true; the input reads as it did. -/
def fnObjectCloseFailsUntilEveryMemberIsTakenSpec : ChangeSpec := { name := "fnObjectCloseFailsUntilEveryMemberIsTaken", fn := fun _ => fun
  | [d1, d2, d3, d4] => { results := [.lit (.bool true)], args := [d1, d2, d3, d4] }
  | _ => none }
def fnObjectCloseFailsUntilEveryMemberIsTakenRow : OpenClaim := { program := "qxb6614591afmt", sum := "93b3e675f62c53e0a1b1d3c27cb9cb11fc7335f192b205b3f678236644761116", func := "example.com/stopout/stopout/zzlaws_internal_notice_b1.FnObjectCloseFailsUntilEveryMemberIsTaken", spec := "fnObjectCloseFailsUntilEveryMemberIsTaken", stops := ["fmt.Sprintf", "fmt.errorf"], inPlace := ["fmt.errorf"], apart := false }
/-- NO THEOREM (fmt's text is open here; it may be false): for the released tool's asking of the row's closed facts alone. THE STATEMENT IS 'FnObjectCloseFailsUntilEveryMemberIsTakenToldSaid' (Qxb6614591aFmtCards.lean). -/
def FnObjectCloseFailsUntilEveryMemberIsTakenFormAsk : Prop := fnObjectCloseFailsUntilEveryMemberIsTakenRow.holds Tryf.pinned (OpenSpec.ofChange fnObjectCloseFailsUntilEveryMemberIsTakenSpec)

/-- ITS FALSE NEIGHBOUR: 'it returns false'. Refute it at one input. -/
def fnObjectCloseFailsUntilEveryMemberIsTakenWrong : ChangeSpec := { name := "fnObjectCloseFailsUntilEveryMemberIsTaken", fn := fun _ => fun
  | [d1, d2, d3, d4] => { results := [.lit (.bool false)], args := [d1, d2, d3, d4] }
  | _ => none }
def FnObjectCloseFailsUntilEveryMemberIsTakenWrongFormAsk : Prop := fnObjectCloseFailsUntilEveryMemberIsTakenRow.holds Tryf.pinned (OpenSpec.ofChange fnObjectCloseFailsUntilEveryMemberIsTakenWrong)

/-- 'zzlaws_internal_notice_b1.FnObjectCloseIgnoresATakenKeyPutInAnywhere': WHATEVER THE INPUT: true; the input reads as it did. -/
def fnObjectCloseIgnoresATakenKeyPutInAnywhereSpec : ChangeSpec := { name := "fnObjectCloseIgnoresATakenKeyPutInAnywhere", fn := fun _ => fun
  | [d1, d2, d3, d4, d5] => { results := [.lit (.bool true)], args := [d1, d2, d3, d4, d5] }
  | _ => none }
def fnObjectCloseIgnoresATakenKeyPutInAnywhereRow : OpenClaim := { program := "qxb6614591afmt", sum := "93b3e675f62c53e0a1b1d3c27cb9cb11fc7335f192b205b3f678236644761116", func := "example.com/stopout/stopout/zzlaws_internal_notice_b1.FnObjectCloseIgnoresATakenKeyPutInAnywhere", spec := "fnObjectCloseIgnoresATakenKeyPutInAnywhere", stops := ["fmt.Sprintf", "fmt.errorf"], inPlace := ["fmt.errorf"], apart := false }
/-- NO THEOREM (fmt's text is open here; it may be false): for the released tool's asking of the row's closed facts alone. THE STATEMENT IS 'FnObjectCloseIgnoresATakenKeyPutInAnywhereToldSaid' (Qxb6614591aFmtCards.lean). -/
def FnObjectCloseIgnoresATakenKeyPutInAnywhereFormAsk : Prop := fnObjectCloseIgnoresATakenKeyPutInAnywhereRow.holds Tryf.pinned (OpenSpec.ofChange fnObjectCloseIgnoresATakenKeyPutInAnywhereSpec)

/-- ITS FALSE NEIGHBOUR: 'it returns false'. Refute it at one input. -/
def fnObjectCloseIgnoresATakenKeyPutInAnywhereWrong : ChangeSpec := { name := "fnObjectCloseIgnoresATakenKeyPutInAnywhere", fn := fun _ => fun
  | [d1, d2, d3, d4, d5] => { results := [.lit (.bool false)], args := [d1, d2, d3, d4, d5] }
  | _ => none }
def FnObjectCloseIgnoresATakenKeyPutInAnywhereWrongFormAsk : Prop := fnObjectCloseIgnoresATakenKeyPutInAnywhereRow.holds Tryf.pinned (OpenSpec.ofChange fnObjectCloseIgnoresATakenKeyPutInAnywhereWrong)

end Rows
end Go.Proofs.Qxb6614591aFmt
