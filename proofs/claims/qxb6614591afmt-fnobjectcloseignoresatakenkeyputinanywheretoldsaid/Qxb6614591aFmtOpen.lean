import Derived.Test.Qxb6614591aFmtStrs
import Derived.SliceStrings
import Derived.ProofKit
namespace Go.Proofs.Qxb6614591aFmt
open Go.ChangeShapes Go.WideShapes Go.ChangeAt Go.RowKit

theorem c9 : Tryf.prog.cellsOf 9 = 1 := by kernel_rfl

theorem open_row {H : Type} {enc : TypeId × Value → H} {w : World} {spare : Nat → Bool} {held : Bool} {fuel : Nat} {cs : List Value} {x : DataW H × List MemPlace}
    (h : DataW.trod enc Tryf.prog w 0 spare held fuel 32 cs = some x) :
    ∃ (p : Option Addr) (c : Nat) (xs : List ByteArray), cs = [.slice p xs.length c] ∧ xs.length ≤ 9223372036854775807 ∧ Strs p xs w ∧ ∀ s ∈ xs, s.size ≤ 9223372036854775807 := by
  rcases open_strings Tryf.underlying32 Tryf.underlying9 c9 h with ⟨rfl, -⟩ | ⟨a, len, cap, ss, rfl, -, hl, hm, hss, -, hc, hs⟩
  · exact ⟨none, 0, [], rfl, by simp, Or.inl rfl, by simp⟩
  · have hlen : len ≤ ss.length := by rw [hss]; split <;> omega
    have htl : (ss.take len).length = len := by rw [List.length_take]; omega
    refine ⟨some a, cap, ss.take len, by rw [htl], by rw [htl]; unfold maxLen at hm; omega, ?_, ?_⟩
    · by_cases h0 : ss.take len = []
      · exact Or.inl h0
      · right
        have hpos : 0 < len := by
          rcases Nat.eq_zero_or_pos len with h | h
          · subst h; simp at h0
          · exact h
        have hc0 := hc 0 (by omega)
        obtain ⟨b, o, sp⟩ := a
        have hsp : sp = none := by
          cases sp with
          | none => rfl
          | some z =>
            simp only [Addr.add] at hc0
            unfold World.cell? at hc0
            split at hc0
            · simp at hc0
            · simp at hc0
        subst hsp
        refine ⟨b, o, rfl, World.block_lt_of_cell? w _ hc0, fun i s hi => ?_⟩
        have hil : i < (ss.take len).length := (List.getElem?_eq_some_iff.1 hi).1
        have h1 := hc i (by omega)
        rw [List.getElem?_take, if_pos (by omega)] at hi
        rw [List.getD, hi] at h1
        by_cases hi0 : i = 0
        · subst hi0; simpa [Addr.add] using h1
        · simpa [Addr.add, hi0] using h1
    · intro s hs'
      have := hs s (List.mem_of_mem_take hs')
      unfold maxLen at this
      omega
end Go.Proofs.Qxb6614591aFmt
