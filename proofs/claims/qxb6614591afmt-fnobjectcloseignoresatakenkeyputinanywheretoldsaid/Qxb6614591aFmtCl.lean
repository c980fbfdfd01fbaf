import Derived.Test.Qxb6614591aFmtIn
import Derived.Lib.SliceRun
import Derived.Lib.BufferMore
import Derived.OwnWalk
namespace Go.Proofs.Qxb6614591aFmt
open Go.RowKit

theorem info9 : (Tryf.prog.info? 9).map (fun i => (i.zero, i.size, i.bytes)) = some (some (.string ⟨#[]⟩), 1, 16) := by kernel_rfl

theorem make_strs (n : Nat) (hn : n ≤ 2097152) :
    ∃ M : Array Value, M.size = n ∧ ∀ W : World, (Instr.makeSlice 32 (.int .i64 (n : Int)) (.int .i64 (n : Int))).run Tryf.prog W = .ok (.slice (some ⟨W.heap.size, 0, none⟩) n n) (W.alloc (.cells M 9)) := by
  obtain ⟨i0, hi0, hz0, hz1, hz2⟩ := info_parts info9
  refine ⟨madeCells (Value.string ⟨#[]⟩).cells (n * i0.size), by rw [size_madeCells, hz1]; omega, fun W => ?_⟩
  have h := run_make (P := Tryf.prog) W 32 9 i0 (.string ⟨#[]⟩) Tryf.underlying32 hi0 hz0 .i64 .i64 (n : Int) (n : Int) (by omega) (by omega) (by rw [hz2]; omega) (by omega)
  simpa using h

/-- The first k strings of xs lie in block b, which has n cells. -/
def Half (b n k : Nat) (xs : List ByteArray) (w : World) : Prop :=
  ∃ cur, w.heap[b]? = some (.cells cur 9 (0, 0)) ∧ cur.size = n ∧ ∀ i s, i < k → xs[i]? = some s → cur[i]? = some (.string s)

theorem Half.lt {b n k : Nat} {xs : List ByteArray} {w : World} (h : Half b n k xs w) : b < w.heap.size := by
  obtain ⟨cur, h1, -⟩ := h
  exact Lib.lt_of_heap h1

theorem Half.put {b n k : Nat} {xs : List ByteArray} {w : World} {y : ByteArray} (h : Half b n k xs w) (hk : k < n) (hx : xs[k]? = some y) : Half b n (k + 1) xs (w.setCell ⟨b, k, none⟩ (.string y)) := by
  obtain ⟨cur, h1, h2, h3⟩ := h
  refine ⟨_, Lib.heap_setCell_same (i := k) h1 (.string y), by simpa using h2, ?_⟩
  intro i s hi hs
  by_cases hik : i < k
  · rw [Array.getElem?_setIfInBounds_ne (by omega)]
    exact h3 i s hik hs
  · obtain rfl : i = k := by omega
    rw [hx] at hs
    cases hs
    exact Array.getElem?_setIfInBounds_self_of_lt (by omega)

theorem Half.strs {b n k : Nat} {xs : List ByteArray} {w : World} (h : Half b n k xs w) (hk : xs.length ≤ k) : Strs (some ⟨b, 0, none⟩) xs w := by
  have hl := h.lt
  obtain ⟨cur, h1, -, h3⟩ := h
  refine Or.inr ⟨b, 0, rfl, hl, fun i s hi => ?_⟩
  rw [Lib.cell_of_heap h1]
  rw [Nat.zero_add]
  exact h3 i s (Nat.lt_of_lt_of_le (List.getElem?_eq_some_iff.1 hi).1 hk) hi

def Cloned (xs : List ByteArray) (w : World) (e : Ending) (w' : World) : Prop :=
  ∃ p c, e = .returned (.slice p xs.length c) ∧ Strs p xs w' ∧ Below w.heap.size w w'

set_option maxHeartbeats 1000000 in
set_option maxRecDepth 20000 in
theorem zzClone (xs : List ByteArray) (p : Option Addr) (c : Nat) (w : World) (hxl : xs.length ≤ 1048576) (hX : Strs p xs w) :
    Calls Tryf.prog 15 #[.slice p xs.length c] w (Cloned xs w) := by
  have hnil : ∀ (W : World) (a : Option Addr) (n c : Nat), (binOp .eql 32 (.slice a n c) (.slice none 0 0)).run Tryf.prog W = .ok (.bool a.isNone) W := fun W a n c => Lib.run_eql_slice_nil W 32 9 a n c 0 0 Tryf.underlying32
  cases p with
  | none =>
    have he : xs = [] := by
      rcases hX with h | ⟨b, o, h, -⟩
      · exact h
      · cases h
    subst he
    go_enter Tryf.func15, Tryf.ntmps15
    go_wp2
    go_ret
    exact ⟨none, 0, rfl, Or.inl rfl, Below.refl _ _⟩
  | some a =>
    obtain ⟨M, hM, hmk⟩ := make_strs xs.length (by omega)
    have hln : (xs.length : Int) ≤ 1048576 := by omega
    go_enter Tryf.func15, Tryf.ntmps15
    go_wp2
    have hm0 : (w.alloc (.cells M 9)).heap[w.heap.size]? = some (.cells M 9 (0, 0)) := heap_alloc_new w (.cells M 9)
    go_loopg [4] xs.length (fun gk kv wr => ∃ k : Nat, gk + k = xs.length ∧ kv = .int .i64 (k : Int) ∧ Half w.heap.size xs.length k xs wr ∧ Below w.heap.size w wr)
    case atStart => exact ⟨0, by omega, rfl, ⟨M, hm0, hM, fun i s hi => absurd hi (by omega)⟩, (Below.refl _ _).alloc (Nat.le_refl _) _⟩
    case round =>
      obtain ⟨k, hk, rfl, hH, hB⟩ := hrel
      have Hk := Lib.hid hk
      clear hk hm0 hmk
      by_cases hlt : k < xs.length
      · have hqk : xs[k]? = some xs[k] := List.getElem?_eq_getElem hlt
        generalize xs[k] = q at hqk
        have hlti : (k : Int) < (xs.length : Int) := by omega
        have hk0 : (0 : Int) ≤ (k : Int) := by omega
        rcases hX with he | ⟨qb, qo, hqa, hqb, hc⟩
        · rw [he] at hqk; simp at hqk
        cases hqa
        have a0 := (hB.cell (p := ⟨qb, qo + k, none⟩) hqb).trans (hc k _ hqk)
        have HH := Lib.hid hH
        obtain ⟨cur, hcu, hcs, hcf⟩ := hH
        obtain ⟨x0, e0⟩ : ∃ x, cur[k]? = some x := ⟨_, Array.getElem?_eq_getElem (by omega)⟩
        have d0 : wr.cell? ⟨w.heap.size, k, none⟩ = some x0 := by rw [Lib.cell_of_heap hcu]; exact e0
        have f0 := Lib.frozen_of_heap hcu k
        have HQ := Lib.hid hqk
        have HB := Lib.hid hB
        clear hc hqk hcu hcs hcf e0 hB
        go_wp2
        go_roundg (gk - 1)
        case measure => have := Hk.out; omega
        case rel => exact ⟨k + 1, by have := Hk.out; omega, by go_num, (Hid.out HH).put hlt (Hid.out HQ), (Hid.out HB).setCell (Nat.le_refl _) _⟩
      · have hleq : (xs.length : Int) ≤ (k : Int) := by have := Hk.out; omega
        have HB := Lib.hid hB
        have HH := Lib.hid hH
        clear hB hH
        go_wp2
        go_ret
        exact ⟨_, _, rfl, (Hid.out HH).strs (by omega), Hid.out HB⟩
end Go.Proofs.Qxb6614591aFmt
