import Derived.Test.Qxb6614591aFmtCards
import Derived.Test.Qxb6614591aFmtTxt
import Derived.ProofKit
import Derived.Stop.JoinedAt
import Derived.SizedLaws
import Derived.SevenToldRow
namespace Go.Proofs.Qxb6614591aFmt
open Go.ChangeShapes Go.WideShapes Go.ChangeAt Go.RowKit Go.Kit
open Go.Extern.Stop Go.Stop Go.Extern

theorem Tryf.own : ownKnob Tryf.prog.godebug = none := by kernel_rfl
theorem Tryf.laidOut : laidOutB Tryf.pinned.checked.prog = true := by kernel_rfl
theorem Tryf.stops : Tryf.pinned.checked.prog.stops = ["fmt.Sprintf", "fmt.errorf"] := by kernel_rfl
theorem Tryf.stopKnobs : Tryf.pinned.checked.prog.stopKnobs = [] := by kernel_rfl
theorem Tryf.quiet (os : Os) : Stop.quiet Tryf.pinned.checked.prog os := by
  intro k hk
  rw [Tryf.stopKnobs] at hk
  cases hk
theorem bounds_i64 {c : Int} (h : (Lit.int .i64 c).wf = true) : -9223372036854775808 ≤ c ∧ c ≤ 9223372036854775807 := by
  have := FmtText.int_bounds h
  simpa [IntKind.min, IntKind.max, IntKind.signed, IntKind.bits] using this
end Go.Proofs.Qxb6614591aFmt
