import Derived.Test.Qxb6614591aFmtFacts
import Derived.WalkKit
import Derived.WalkSpells
namespace Go.Proofs.Qxb6614591aFmt
open Go.RowKit Go.Extern.Stop Go.Stop Go.Extern

def readA : List (List UInt8) := [[37, 113, 32, 37, 113], shape9, FmtStop.pack [119, 105, 110, 100, 111, 119], shape9, FmtStop.pack [99, 108, 111, 115, 101]]
def sprA (F : Interp) : ByteArray := FmtStop.textOf (F "fmt.Sprintf" readA 0)

set_option maxRecDepth 100000 in
theorem run_sprA (F : Interp) (blk : Nat) (w : World) (hF : F.answers w.tape)
    (h0 : w.cell? ⟨blk, 0, none⟩ = some (.iface 9 (.string ⟨#[119, 105, 110, 100, 111, 119]⟩))) (h1 : w.cell? ⟨blk, 1, none⟩ = some (.iface 9 (.string ⟨#[99, 108, 111, 115, 101]⟩))) :
    (callFunc 33 #[.string ⟨#[37, 113, 32, 37, 113]⟩, .slice (some ⟨blk, 0, none⟩) 2 2]).run Tryf.prog w = .ok (.value (.string (sprA F))) w.drew := by
  have hF' := answers_open hF
  have g := guardOk
  have a1 := fmtA
  have a2 := op9_113
  rw [call33]
  go_simp
  rfl

def readB : List (List UInt8) := [[32, 119, 105, 116, 104, 32, 37, 113, 32, 37, 113], shape9, FmtStop.pack [101, 109, 101, 114, 103, 101, 110, 99, 121], shape9, FmtStop.pack [101, 120, 116, 101, 110, 115, 105, 111, 110, 95, 109, 105, 110, 117, 116, 101, 115]]
def sprB (F : Interp) : ByteArray := FmtStop.textOf (F "fmt.Sprintf" readB 0)

set_option maxRecDepth 100000 in
theorem run_sprB (F : Interp) (blk : Nat) (w : World) (hF : F.answers w.tape)
    (h0 : w.cell? ⟨blk, 0, none⟩ = some (.iface 9 (.string ⟨#[101, 109, 101, 114, 103, 101, 110, 99, 121]⟩))) (h1 : w.cell? ⟨blk, 1, none⟩ = some (.iface 9 (.string ⟨#[101, 120, 116, 101, 110, 115, 105, 111, 110, 95, 109, 105, 110, 117, 116, 101, 115]⟩))) :
    (callFunc 33 #[.string ⟨#[32, 119, 105, 116, 104, 32, 37, 113, 32, 37, 113]⟩, .slice (some ⟨blk, 0, none⟩) 2 2]).run Tryf.prog w = .ok (.value (.string (sprB F))) w.drew := by
  have hF' := answers_open hF
  have g := guardOk
  have a1 := fmtB
  have a2 := op9_113
  rw [call33]
  go_simp
  rfl
end Go.Proofs.Qxb6614591aFmt
