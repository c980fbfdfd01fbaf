import Derived.Test.Qxb6614591aFmtRows
import Derived.WalkKit
import Derived.WalkSpells
import Derived.Lib.Hide
import Derived.Deep.LoopGhost
namespace Go.Proofs.Qxb6614591aFmt
open Go.RowKit

/-- The strings xs lie behind the address p. -/
def Strs (p : Option Addr) (xs : List ByteArray) (w : World) : Prop :=
  xs = [] ∨ ∃ b o, p = some ⟨b, o, none⟩ ∧ b < w.heap.size ∧ ∀ i s, xs[i]? = some s → w.cell? ⟨b, o + i, none⟩ = some (.string s)

theorem Strs.below {p : Option Addr} {xs : List ByteArray} {w w' : World} (h : Strs p xs w) (hB : Below w.heap.size w w') : Strs p xs w' := by
  rcases h with h | ⟨b, o, e, hb, h⟩
  · exact Or.inl h
  · exact Or.inr ⟨b, o, e, Nat.lt_of_lt_of_le hb hB.size, fun i s hi => (hB.cell hb).trans (h i s hi)⟩

def BoolSaid (w : World) (P : Prop) (e : Ending) (w' : World) : Prop := ∃ b : Bool, e = .returned (.bool b) ∧ w' = w ∧ (b = true → P)
theorem BoolSaid.no (w : World) (P : Prop) : BoolSaid w P (.returned (.bool false)) w := ⟨false, rfl, rfl, fun h => by cases h⟩
theorem BoolSaid.yes (w : World) {P : Prop} (h : P) : BoolSaid w P (.returned (.bool true)) w := ⟨true, rfl, rfl, fun _ => h⟩

theorem Below.thenB {w a b : World} (h : Below w.heap.size w a) (k : Below a.heap.size a b) : Below w.heap.size w b := h.trans (k.mono h.size)
theorem Below.newB {w a : World} (h : Below w.heap.size w a) (o : Obj) : Below w.heap.size w (a.alloc o) := h.alloc h.size o
end Go.Proofs.Qxb6614591aFmt
