import Derived.Test.Qxb6614442aDoorOpen
import Derived.Test.Qxb6614442aDoorLi
namespace Go.Proofs.Qxb6614442aDoor
open Go.ChangeShapes Go.WideShapes Go.ChangeAt Go.RowKit

theorem c62 : Tryd.prog.cellsOf 62 = 4 := by kernel_rfl

theorem each_n {H : Type} {enc : TypeId × Value → H} {w : World} {spare : Nat → Bool} {held : Bool} (n : Nat) (cs : List Value) (x : DataW H × List MemPlace) (hl : cs.length = 4) (h : DataW.trod enc Tryd.prog w 0 spare held n 62 cs = some x) :
    ∃ q : Nd, cs = q.cells ∧ i64 q.weight ∧ q.name.size ≤ 9223372036854775807 ∧ q.addr.size ≤ 9223372036854775807 ∧ q.note.size ≤ 9223372036854775807 := by
  match cs, hl with
  | [v0, v1, v2, v3], _ =>
    obtain ⟨y0, y1, y2, y3, k, -, -, g0, g1, g2, g3⟩ := Joins.trod_struct4 Tryd.underlying62 h
    simp only [c9, c3, List.drop_zero, List.take_succ_cons, List.take_zero, List.drop_succ_cons] at g0 g1 g2 g3
    obtain ⟨s, e0, -, hs⟩ := DataW.trod_string Tryd.underlying9 g0
    obtain ⟨a, e1, -, ha⟩ := DataW.trod_string Tryd.underlying9 g1
    obtain ⟨b, e2, -, hb⟩ := DataW.trod_int Tryd.underlying3 g2
    obtain ⟨c, e3, -, hc⟩ := DataW.trod_string Tryd.underlying9 g3
    simp only [List.cons.injEq, and_true] at e0 e1 e2 e3
    subst e0 e1 e2 e3
    exact ⟨⟨s, a, b, c⟩, rfl, wf_i64 hb, hs, ha, hc⟩
end Go.Proofs.Qxb6614442aDoor
