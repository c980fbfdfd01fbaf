import Derived.Test.Qxb6614591aFmtFacts
import Derived.WalkKit
import Derived.WalkSpells
import Derived.Lib.Hide
namespace Go.Proofs.Qxb6614591aFmt
open Go.RowKit Go.Extern.Stop Go.Stop Go.Extern

theorem call34 (args : Array Value) (w : World) : (callFunc 34 args).run Tryf.prog w = ((FmtStop.errorf #[9, 92] #[39] args).run Tryf.prog w).andThen fun v w' => .ok (.value v) w' :=
  run_callFunc_extern Tryf.func34 (by kernel_rfl) (by kernel_rfl) (by kernel_rfl) (by kernel_rfl) args w
theorem fmtE : FmtStop.printed? ⟨#[117, 110, 107, 110, 111, 119, 110, 32, 107, 101, 121, 32, 37, 113]⟩ 1 = some [(0, 113, false)] := by kernel_rfl
theorem fmtEr (w : World) : (FmtDoors.printed ⟨#[117, 110, 107, 110, 111, 119, 110, 32, 107, 101, 121, 32, 37, 113]⟩ 1).run Tryf.prog w = .ok [(0, 113, false)] w := by kernel_rfl
theorem op9_113w (name : String) (x : ByteArray) (w : World) : (FmtStop.operand name true 113 false (.iface 9 (.string x))).run Tryf.prog w = .ok (shape9, FmtStop.pack x.data.toList) w := by kernel_rfl
theorem ptr88 (w : World) : (FmtStop.ptrTo "errors.errorString").run Tryf.prog w = .ok 88 w := by kernel_rfl
theorem elem88 (w : World) : (elemOf 88).run Tryf.prog w = .ok 90 w := by kernel_rfl
def readE (x : ByteArray) : List (List UInt8) := [[117, 110, 107, 110, 111, 119, 110, 32, 107, 101, 121, 32, 37, 113], shape9, FmtStop.pack x.data.toList]
def sprE (F : Interp) (x : ByteArray) : ByteArray := FmtStop.textOf (F "fmt.errorf" (readE x) 0)

set_option maxRecDepth 100000 in
theorem run_err (F : Interp) (x : ByteArray) (blk : Nat) (w : World) (hF : F.answers w.tape)
    (h0 : w.cell? ⟨blk, 0, none⟩ = some (.iface 9 (.string x))) :
    (callFunc 34 #[.string ⟨#[117, 110, 107, 110, 111, 119, 110, 32, 107, 101, 121, 32, 37, 113]⟩, .slice (some ⟨blk, 0, none⟩) 1 1]).run Tryf.prog w = .ok (.value (.iface 88 (.pointer (some ⟨w.heap.size, 0, none⟩)))) (w.alloc (.cells #[.string (sprE F x)] 90)).drew := by
  have hF' := answers_open hF
  have g := guardOk
  have a1 := fmtE
  have a1' := fmtEr
  have a2 := op9_113w
  have p1 := ptr88
  have p2 := elem88
  rw [call34]
  go_simp
  rfl

/-- An error that is not nil is handed back; of old memory nothing has turned. -/
def ErrSaid (w : World) (e : Ending) (w' : World) : Prop := ∃ (t : TypeId) (v : Value), e = .returned (.iface t v) ∧ Below w.heap.size w w'

set_option maxHeartbeats 400000 in
set_option maxRecDepth 100000 in
theorem errorf (F : Interp) (x : ByteArray) (blk : Nat) (w : World) (hF : F.answers w.tape) (h0 : w.cell? ⟨blk, 0, none⟩ = some (.iface 9 (.string x))) :
    Calls Tryf.prog 32 #[.string ⟨#[117, 110, 107, 110, 111, 119, 110, 32, 107, 101, 121, 32, 37, 113]⟩, .slice (some ⟨blk, 0, none⟩) 1 1] w (ErrSaid w) := by
  have h34 := run_err F x blk w hF h0
  go_enter Tryf.func32, Tryf.ntmps32
  go_wp2
  go_ret
  exact ⟨_, _, rfl, ((Below.refl _ _).alloc (Nat.le_refl _) _).drew⟩

set_option maxHeartbeats 400000 in
theorem errorsNew (x : ByteArray) (w : World) : Calls Tryf.prog 30 #[.string x] w (ErrSaid w) := by
  go_enter Tryf.func30, Tryf.ntmps30
  go_wp2
  go_ret
  exact ⟨_, _, rfl, (Below.refl _ _).alloc (Nat.le_refl _) _⟩
end Go.Proofs.Qxb6614591aFmt
