import Derived.Test.Qxb6614591aFmtSpr
import Derived.Stop.Texts
import Derived.Stop.JoinedTold
import Derived.Stop.FmtTextKit
namespace Go.Proofs.Qxb6614591aFmt
open Go.RowKit Go.Extern.Stop Go.Stop Go.Extern

theorem textA : FmtText.text "fmt.Sprintf" readA = some [34, 119, 105, 110, 100, 111, 119, 34, 32, 34, 99, 108, 111, 115, 101, 34] := by kernel_rfl
theorem textB : FmtText.text "fmt.Sprintf" readB = some [32, 119, 105, 116, 104, 32, 34, 101, 109, 101, 114, 103, 101, 110, 99, 121, 34, 32, 34, 101, 120, 116, 101, 110, 115, 105, 111, 110, 95, 109, 105, 110, 117, 116, 101, 115, 34] := by kernel_rfl

theorem size_of_list (b : ByteArray) : b.size = b.data.toList.length := Array.length_toList.symm

theorem sizeAB (F : Interp) : (sprA F.told).size + (sprB F.told).size ≤ 9223372036854775807 := by
  have hA := told_string F textA (by decide)
  have hB := told_string F textB (by decide)
  rw [size_of_list, size_of_list, sprA, sprB, Go.Kit.textOf_list, Go.Kit.textOf_list, hA, hB]
  decide
end Go.Proofs.Qxb6614591aFmt
