import Derived.Test.Qxb6614442aDoorLaw6w
import Derived.ProofKit
import Derived.Deep.Slices
import Derived.Deep.Strs
import Derived.Lib.SmallJoins
import Derived.Lib.LaidTab
import Derived.Stop.LaidErr
import Derived.LaidMore
namespace Go.Proofs.Qxb6614442aDoor
open Go.ChangeShapes Go.WideShapes Go.ChangeAt Go.RowKit

section
variable {H : Type} {enc : TypeId × Value → H} {w : World} {spare : Nat → Bool} {held : Bool}

/-- A slice of structs, opened into a list. -/
theorem open_list {α : Type} (cells : α → List Value) (Q : α → Prop) {t e : TypeId} {z : Nat} (ht : Tryd.prog.underlying t = some (.slice e)) (hz : Tryd.prog.cellsOf e = z) (hz0 : 0 < z)
    (each : ∀ n cs x, cs.length = z → DataW.trod enc Tryd.prog w 0 spare held n e cs = some x → ∃ y : α, cs = cells y ∧ Q y)
    {fuel : Nat} {cs : List Value} {x : DataW H × List MemPlace} (h : DataW.trod enc Tryd.prog w 0 spare held fuel t cs = some x) :
    ∃ (a : Option Addr) (cap : Nat) (xs : List α), cs = [.slice a xs.length cap] ∧ xs.length ≤ 9223372036854775807 ∧ ARows a z (xs.map cells) w ∧ ∀ y ∈ xs, Q y := by
  rcases Deep.open_slice ht h with ⟨rfl, -⟩ | ⟨a, len, cap, m, n, D, Pl, rfl, -, hl, hm, hmm, -, hx⟩
  · exact ⟨none, 0, [], rfl, by simp, Or.inl rfl, fun y hy => by cases hy⟩
  have hlm : len ≤ m := by rw [hmm]; split <;> omega
  have build : ∀ k, k ≤ len → ∃ xs : List α, xs.length = k ∧ ∀ i y, xs[i]? = some y → w.cells? 0 (a.add (i * z)) z = some (cells y) ∧ Q y := by
    intro k
    induction k with
    | zero => exact fun _ => ⟨[], rfl, fun i y hi => by simp at hi⟩
    | succ k ih =>
      intro hk
      obtain ⟨xs, h1, h2⟩ := ih (by omega)
      obtain ⟨cs', h3, h4⟩ := hx k (by omega)
      rw [hz] at h3
      obtain ⟨y, rfl, hQ⟩ := each _ _ _ (World.cells?_some h3).2.1 h4
      refine ⟨xs ++ [y], by simp [h1], fun i v hi => ?_⟩
      by_cases hik : i < k
      · rw [List.getElem?_append_left (by omega)] at hi
        exact h2 i v hi
      · have hi2 : i = k := by have := (List.getElem?_eq_some_iff.1 hi).1; simp [h1] at this; omega
        subst hi2
        rw [List.getElem?_append_right (by omega), h1, Nat.sub_self] at hi
        simp at hi
        subst hi
        exact ⟨h3, hQ⟩
  obtain ⟨xs, h1, h2⟩ := build len (Nat.le_refl _)
  refine ⟨some a, cap, xs, by rw [h1], by rw [h1]; unfold maxLen at hm; omega, ?_, fun y hy => by
    obtain ⟨i, hi⟩ := List.getElem?_of_mem hy
    exact (h2 i y hi).2⟩
  cases hxs : xs with
  | nil => exact Or.inl rfl
  | cons y0 r =>
    have c0 := (h2 0 y0 (by rw [hxs]; rfl)).1
    obtain ⟨-, hlen0, hc0⟩ := World.cells?_some c0
    have hcell := hc0 0 hz0
    rw [List.getElem?_eq_getElem (by omega)] at hcell
    have hspot := World.cell?_spot hcell
    obtain ⟨b, o, spot⟩ := a
    have hs : spot = none := by simpa [Addr.add] using hspot
    subst hs
    refine Or.inr ⟨b, o, rfl, ?_, ?_⟩
    · have := World.block_lt_of_cell? w _ hcell
      simpa [Addr.add] using this
    · intro i row hi j v hj
      rw [← hxs, List.getElem?_map] at hi
      obtain ⟨y, hy, rfl⟩ := Option.map_eq_some_iff.1 hi
      obtain ⟨-, hl2, hc2⟩ := World.cells?_some (h2 i y hy).1
      have := hc2 j (by have := (List.getElem?_eq_some_iff.1 hj).1; omega)
      rw [hj, Deep.add_add, add_plain, ← Nat.add_assoc] at this
      exact this

theorem wf_i64 {n : Int} (h : (Lit.int .i64 n).wf = true) : i64 n := by
  simp [Lit.wf] at h
  exact h

theorem c54 : Tryd.prog.cellsOf 54 = 4 := by kernel_rfl
theorem c57 : Tryd.prog.cellsOf 57 = 3 := by kernel_rfl
theorem c59 : Tryd.prog.cellsOf 59 = 2 := by kernel_rfl
theorem c3 : Tryd.prog.cellsOf 3 = 1 := by kernel_rfl
theorem c9 : Tryd.prog.cellsOf 9 = 1 := by kernel_rfl
theorem c55 : Tryd.prog.cellsOf 55 = 1 := by kernel_rfl

theorem each_q (n : Nat) (cs : List Value) (x : DataW H × List MemPlace) (hl : cs.length = 4) (h : DataW.trod enc Tryd.prog w 0 spare held n 54 cs = some x) :
    ∃ q : Qd, cs = q.cells ∧ (i64 q.read ∧ i64 q.write ∧ i64 q.perm) ∧ q.group.size ≤ 9223372036854775807 := by
  match cs, hl with
  | [v0, v1, v2, v3], _ =>
    obtain ⟨y0, y1, y2, y3, k, -, -, g0, g1, g2, g3⟩ := Joins.trod_struct4 Tryd.underlying54 h
    simp only [c9, c3, List.drop_zero, List.take_succ_cons, List.take_zero, List.drop_succ_cons] at g0 g1 g2 g3
    obtain ⟨s, e0, -, hs⟩ := DataW.trod_string Tryd.underlying9 g0
    obtain ⟨a, e1, -, ha⟩ := DataW.trod_int Tryd.underlying3 g1
    obtain ⟨b, e2, -, hb⟩ := DataW.trod_int Tryd.underlying3 g2
    obtain ⟨c, e3, -, hc⟩ := DataW.trod_int Tryd.underlying3 g3
    simp only [List.cons.injEq, and_true] at e0 e1 e2 e3
    subst e0 e1 e2 e3
    exact ⟨⟨s, a, b, c⟩, rfl, ⟨wf_i64 ha, wf_i64 hb, wf_i64 hc⟩, hs⟩

theorem each_m (n : Nat) (cs : List Value) (x : DataW H × List MemPlace) (hl : cs.length = 2) (h : DataW.trod enc Tryd.prog w 0 spare held n 59 cs = some x) :
    ∃ m : Md, cs = m.cells ∧ i64 m.id ∧ m.addr.size ≤ 9223372036854775807 := by
  match cs, hl with
  | [v0, v1], _ =>
    obtain ⟨y0, y1, k, -, -, g0, g1⟩ := trod_struct2 Tryd.underlying59 h
    simp only [c9, c3, List.drop_zero, List.take_succ_cons, List.take_zero, List.drop_succ_cons] at g0 g1
    obtain ⟨a, e0, -, ha⟩ := DataW.trod_int Tryd.underlying3 g0
    obtain ⟨s, e1, -, hs⟩ := DataW.trod_string Tryd.underlying9 g1
    simp only [List.cons.injEq, and_true] at e0 e1
    subst e0 e1
    exact ⟨⟨a, s⟩, rfl, wf_i64 ha, hs⟩

theorem each_b (n : Nat) (cs : List Value) (x : DataW H × List MemPlace) (hl : cs.length = 3) (h : DataW.trod enc Tryd.prog w 0 spare held n 57 cs = some x) :
    ∃ m : Ba, cs = m.cells ∧ (m.d.mems.length ≤ 9223372036854775807 ∧ ARows m.ma 2 (m.d.mems.map Md.cells) w) ∧ (∀ x ∈ m.d.mems, i64 x.id) ∧ m.d.group.size ≤ 9223372036854775807 ∧ m.d.cluster.size ≤ 9223372036854775807 ∧ ∀ x ∈ m.d.mems, x.addr.size ≤ 9223372036854775807 := by
  match cs, hl with
  | [v0, v1, v2], _ =>
    obtain ⟨y0, y1, y2, k, -, -, g0, g1, g2⟩ := Deep.trod_struct3 Tryd.underlying57 h
    simp only [c9, c55, List.drop_zero, List.take_succ_cons, List.take_zero, List.drop_succ_cons] at g0 g1 g2
    obtain ⟨s, e0, -, hs⟩ := DataW.trod_string Tryd.underlying9 g0
    obtain ⟨t, e1, -, ht⟩ := DataW.trod_string Tryd.underlying9 g1
    obtain ⟨a, cap, ms, e2, hl, hr, hq⟩ := open_list Md.cells (fun m => i64 m.id ∧ m.addr.size ≤ 9223372036854775807) Tryd.underlying55 c59 (by decide) each_m g2
    simp only [List.cons.injEq, and_true] at e0 e1 e2
    subst e0 e1 e2
    exact ⟨⟨⟨s, t, ms⟩, a, cap⟩, rfl, ⟨hl, hr⟩, fun x hx => (hq x hx).1, hs, ht, fun x hx => (hq x hx).2⟩
end

theorem gTabType : (Tryd.prog.globals[1]?).map (·.type) = some 128 := by kernel_rfl
theorem Tryd.own : ownKnob Tryd.prog.godebug = none := by kernel_rfl
theorem Tryd.laidOut : laidOutB Tryd.prog = true := by kernel_rfl

/-- From the row's condition to the table. -/
theorem tab_of_laid {W : World} (h : laidMetH Tryd.prog Rows.fnRouteWriteElemsDecodesInElemsValuesRow.laid W) : Tab W := by
  rw [MakeChecks.laidMetH_plain _ _ _ (by kernel_rfl)] at h
  have h2 := h.tail.tail
  exact Lib.tabIs_of_head gTab gTabType Tryd.underlying128 Tryd.underlying79 (by kernel_rfl) (by kernel_rfl) h2

set_option maxRecDepth 100000 in
theorem door_met (os : Os) (args : Array Value) : laidMetH Tryd.prog Rows.fnRouteWriteElemsDecodesInElemsValuesRow.laid ((World.doorLaid Tryd.prog 62 os).forCall (fun _ _ => 0) ⟨#[], args, []⟩).memory :=
  laidMetH_of_parts3 (fuel := 8) (laidMet_of_run' 8 (by kernel_rfl) (by kernel_rfl)) (by kernel_rfl) (by kernel_rfl)

end Go.Proofs.Qxb6614442aDoor
