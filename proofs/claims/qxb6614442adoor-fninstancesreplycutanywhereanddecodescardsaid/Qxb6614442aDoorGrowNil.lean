import Derived.Test.Qxb6614442aDoorRows
import Derived.Test.Qxb6614442aDoorShelf
import Derived.WalkKit
import Derived.WalkSpells
import Derived.WalkLawsBesides
import Derived.RegionTactic
import Derived.Deep.RegionWith
import Derived.Deep.Draws
import Derived.BigQuiet
import Derived.Deep.QuietTactic
import Derived.Lib.BufferOwn
import Derived.Lib.BufferGrow
import Derived.Lib.Hide
import Derived.Lib.ByteType
namespace Go.Proofs.Qxb6614442aDoor
open Go.RowKit

theorem infoByte : (Tryd.prog.info? 5).map (fun i => (i.zero, i.size, i.bytes)) = some (some (.int .u8 0), 1, 1) := by kernel_rfl

set_option maxHeartbeats 6400000 in
set_option maxRecDepth 100000 in
theorem grow_nil_small (b n : Nat) (lr : Int) (w : World)
    (hbk : w.heap[b]? = some (.cells #[.slice none 0 0, .int .i64 0, .int .i8 lr] 67 (0, 0))) (hn : 1 ≤ n) (h64 : n ≤ 64) :
    Calls Tryd.prog 85 #[.pointer (some ⟨b, 0, none⟩), .int .i64 n] w fun e w' => e = .returned (.int .i64 0) ∧ ∃ N cap2 cells, w.heap.size ≤ N ∧
      w'.heap[b]? = some (.cells #[.slice (some ⟨N, 0, none⟩) n cap2, .int .i64 0, .int .i8 lr] 67 (0, 0)) ∧ w'.heap[N]? = some (.cells cells 5 (0, 0)) ∧ cells.size = cap2 ∧
      n ≤ cap2 ∧ cap2 ≤ maxLen ∧ w.grownBy w' (some b) := by
  obtain ⟨i0, hi, hz0, hz1, hz2⟩ := info_parts infoByte
  obtain ⟨M, hM⟩ : ∃ M, M = madeCells (Value.int .u8 0).cells ((64 : Int).toNat * i0.size) := ⟨_, rfl⟩
  have hMs : M.size = 64 := by rw [hM, size_madeCells, hz1]; rfl
  have hmk : ∀ W : World, (Instr.makeSlice 25 (.int .i64 (n : Int)) (.int .i64 64)).run Tryd.prog W = .ok (.slice (some ⟨W.heap.size, 0, none⟩) n 64) (W.alloc (.cells M 5)) := fun W => by
    have h := run_makeSlice (P := Tryd.prog) W 25 5 i0 (.int .u8 0) Tryd.underlying25 hi hz0 .i64 .i64 (n : Int) 64 (by omega) (by omega) (by rw [hz1]; decide) (by rw [hz2]; decide) (by decide)
    rw [← hM] at h
    simpa using h
  clear hM
  have hIs : Lib.IsBuffer 67 5 0 b [] w := ⟨Nat.zero_le _, _, _, hbk, World.ownsRow_nil _ _ _ _, by simp [Value.ownBlock]⟩
  have hnil : ∀ W, (binOp .eql 25 (.slice none 0 0) (.slice none 0 0)).run Tryd.prog W = .ok (.bool true) W := fun W => Lib.run_eql_slice_nil_nil W _ _ Tryd.underlying25
  go_enter Tryd.func85, Tryd.ntmps85
  go_wp2_with (go_at_call 86; refine (Tryd.Buffer_Len 0 b [] _ hIs).mono ?_)
  rintro e W0 ⟨rfl, k, hW0⟩
  have hbk0 : W0.heap[b]? = some (.cells #[.slice none 0 0, .int .i64 0, .int .i8 lr] 67 (0, 0)) := by rw [hW0]; exact hbk
  have c0 : W0.cell? ⟨b, 0, none⟩ = some (.slice none 0 0) := by rw [Lib.cell_of_heap hbk0]; rfl
  have c1 : W0.cell? ⟨b, 1, none⟩ = some (.int .i64 0) := by rw [Lib.cell_of_heap hbk0]; rfl
  have f0 : W0.frozen? ⟨b, 0, none⟩ = false := Lib.frozen_of_heap hbk0 0
  have f1 : W0.frozen? ⟨b, 1, none⟩ = false := Lib.frozen_of_heap hbk0 1
  have hbW0 := Lib.lt_of_heap hbk0
  have c0a : ∀ o, (W0.alloc o).cell? ⟨b, 0, none⟩ = some (.slice none 0 0) := fun o => (World.cell?_of_block (a := ⟨b, 0, none⟩) (Below.heap_alloc W0 o b hbW0)).trans c0
  have f0a : ∀ o, (W0.alloc o).frozen? ⟨b, 0, none⟩ = false := fun o => (World.frozen?_of_block (a := ⟨b, 0, none⟩) (Below.heap_alloc W0 o b hbW0)).trans f0
  have HW0 := Lib.hid hW0
  clear hW0 hIs
  go_wp2_with (go_at_call 84; refine (Tryd.Buffer_tryGrow_none b _ 0 0 n _ c0 (Nat.le_refl _) (Nat.zero_le _) (by omega)).mono ?_; rintro e w' ⟨rfl, rfl⟩)
  go_ret
  have hsz0 : w'.heap.size = w.heap.size := by rw [HW0.out]; rfl
  have hg0 : w.grownBy w' (some b) := by rw [HW0.out]; exact ⟨rfl, rfl, rfl, Nat.le_refl _, fun _ _ _ => rfl⟩
  have hsz : (w'.setCell ⟨b, 0, none⟩ (.slice (some ⟨w'.heap.size, 0, none⟩) n 64)).heap.size = w'.heap.size := by simp [World.setCell]
  refine ⟨rfl, w'.heap.size, 64, M, by omega, ?_, ?_, hMs, h64, by unfold maxLen; omega, Lib.grownBy_allocR (Lib.grownBy_setB hg0 0 _) _⟩
  · rw [Below.heap_alloc _ _ b (by rw [hsz]; exact hbW0)]
    exact Lib.heap_setCell_same (i := 0) hbk0 _
  · have h := heap_alloc_new (w'.setCell ⟨b, 0, none⟩ (.slice (some ⟨w'.heap.size, 0, none⟩) n 64)) (.cells M 5)
    rw [hsz] at h
    exact h

set_option maxHeartbeats 12800000 in
set_option maxRecDepth 100000 in
theorem grow_nil_big (b n : Nat) (lr : Int) (w : World)
    (hbk : w.heap[b]? = some (.cells #[.slice none 0 0, .int .i64 0, .int .i8 lr] 67 (0, 0))) (h64 : 64 < n) (hlim : n ≤ 140737488355328) :
    Calls Tryd.prog 85 #[.pointer (some ⟨b, 0, none⟩), .int .i64 n] w fun e w' => e = .returned (.int .i64 0) ∧ ∃ N cap2 cells, w.heap.size ≤ N ∧
      w'.heap[b]? = some (.cells #[.slice (some ⟨N, 0, none⟩) n cap2, .int .i64 0, .int .i8 lr] 67 (0, 0)) ∧ w'.heap[N]? = some (.cells cells 5 (0, 0)) ∧ cells.size = cap2 ∧
      n ≤ cap2 ∧ cap2 ≤ maxLen ∧ w.grownBy w' (some b) := by
  have hn : 1 ≤ n := by omega
  have hIs : Lib.IsBuffer 67 5 0 b [] w := ⟨Nat.zero_le _, _, _, hbk, World.ownsRow_nil _ _ _ _, by simp [Value.ownBlock]⟩
  have hnil : ∀ W, (binOp .eql 25 (.slice none 0 0) (.slice none 0 0)).run Tryd.prog W = .ok (.bool true) W := fun W => Lib.run_eql_slice_nil_nil W _ _ Tryd.underlying25
  go_enter Tryd.func85, Tryd.ntmps85
  go_wp2_with (go_at_call 86; refine (Tryd.Buffer_Len 0 b [] _ hIs).mono ?_)
  rintro e W0 ⟨rfl, k, hW0⟩
  have hbk0 : W0.heap[b]? = some (.cells #[.slice none 0 0, .int .i64 0, .int .i8 lr] 67 (0, 0)) := by rw [hW0]; exact hbk
  have c0 : W0.cell? ⟨b, 0, none⟩ = some (.slice none 0 0) := by rw [Lib.cell_of_heap hbk0]; rfl
  have c1 : W0.cell? ⟨b, 1, none⟩ = some (.int .i64 0) := by rw [Lib.cell_of_heap hbk0]; rfl
  have f0 : W0.frozen? ⟨b, 0, none⟩ = false := Lib.frozen_of_heap hbk0 0
  have f1 : W0.frozen? ⟨b, 1, none⟩ = false := Lib.frozen_of_heap hbk0 1
  have HW0 := Lib.hid hW0
  clear hW0 hIs
  go_wp2_with (go_at_call 84; refine (Tryd.Buffer_tryGrow_none b _ 0 0 n _ c0 (Nat.le_refl _) (Nat.zero_le _) (by omega)).mono ?_; rintro e w' ⟨rfl, rfl⟩)
  have hbW := Lib.lt_of_heap hbk0
  have hwn : IntKind.i64.wrap (n : Int) = n := by rw [IntKind.wrap_i64]; omega
  go_region_with (
      go_at_call 87
      refine (Tryd.bytes_growSlice_nil n _ hn hlim).mono ?_
      rintro e w2 ⟨cap2, cells, rfl, hN, hcsz, hcap2, hcm2, hbel⟩
      have hbk2 : w2.heap[b]? = some (.cells #[.slice none 0 0, .int .i64 0, .int .i8 lr] 67 (0, 0)) := (hbel.block b hbW).trans hbk0
      have d0 : w2.cell? ⟨b, 0, none⟩ = some (.slice none 0 0) := by rw [Lib.cell_of_heap hbk2]; rfl
      have d1 : w2.cell? ⟨b, 1, none⟩ = some (.int .i64 0) := by rw [Lib.cell_of_heap hbk2]; rfl
      have e0 : w2.frozen? ⟨b, 0, none⟩ = false := Lib.frozen_of_heap hbk2 0
      have e1 : w2.frozen? ⟨b, 1, none⟩ = false := Lib.frozen_of_heap hbk2 1)
  all_goals (
    go_wp2
    go_ret
    have hsz0 : w'.heap.size = w.heap.size := by rw [HW0.out]; rfl
    have hg2 : w.grownBy w2 (some b) := Lib.grownBy_below (w := w'.drew) (by rw [HW0.out]; exact ⟨rfl, rfl, rfl, Nat.le_refl _, fun _ _ _ => rfl⟩) hbel
    have hNb : w'.heap.size ≠ b := by omega
    refine ⟨rfl, w'.heap.size, cap2, cells, by omega, ?_, ?_, hcsz, hcap2, hcm2, Lib.grownBy_setB (Lib.grownBy_setB (Lib.grownBy_setB hg2 0 _) 1 _) 0 _⟩
    · exact Lib.heap_setCell_same (i := 0) (Lib.heap_setCell_same (i := 1) (Lib.heap_setCell_same (i := 0) hbk2 _) (.int .i64 0)) _
    · rw [Below.heap_setCell _ _ _ _ hNb, Below.heap_setCell _ _ _ _ hNb, Below.heap_setCell _ _ _ _ hNb]; exact hN)
end Go.Proofs.Qxb6614442aDoor
