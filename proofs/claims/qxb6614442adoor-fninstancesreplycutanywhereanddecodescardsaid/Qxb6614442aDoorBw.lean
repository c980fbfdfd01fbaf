import Derived.Test.Qxb6614442aDoorApp
import Derived.Deep.RegionHeld3
namespace Go.Proofs.Qxb6614442aDoor
open Go.RowKit

/-- A bufio.Writer in block bw, its buffer in block fb (l2 waits in it), over the bytes.Buffer in block bb (l1 has come there). -/
structure Bw (bw fb bb : Nat) (bufv : Value) (l1 l2 : List UInt8) (w : World) : Prop where
  hbw : w.heap[bw]? = some (.cells #[.nilIface, .slice (some ⟨fb, 0, none⟩) 4096 4096, .int .i64 (l2.length : Int), .iface 70 (.pointer (some ⟨bb, 0, none⟩))] 110 (0, 0))
  hfb : ∃ cur, w.heap[fb]? = some (.cells cur 5 (0, 0)) ∧ cur.size = 4096 ∧ cur.toList.take l2.length = Lib.byteCells l2
  hle : l2.length ≤ 4096
  hbb : BufAt bb bufv (Lib.byteCells l1) w
  hne : bufv.ownBlock ≠ some fb

theorem Bw.c0 {bw fb bb : Nat} {bufv : Value} {l1 l2 : List UInt8} {w : World} (h : Bw bw fb bb bufv l1 l2 w) : w.cell? ⟨bw, 0, none⟩ = some .nilIface := by rw [Lib.cell_of_heap h.hbw]; rfl
theorem Bw.c1 {bw fb bb : Nat} {bufv : Value} {l1 l2 : List UInt8} {w : World} (h : Bw bw fb bb bufv l1 l2 w) : w.cell? ⟨bw, 1, none⟩ = some (.slice (some ⟨fb, 0, none⟩) 4096 4096) := by rw [Lib.cell_of_heap h.hbw]; rfl
theorem Bw.c2 {bw fb bb : Nat} {bufv : Value} {l1 l2 : List UInt8} {w : World} (h : Bw bw fb bb bufv l1 l2 w) : w.cell? ⟨bw, 2, none⟩ = some (.int .i64 (l2.length : Int)) := by rw [Lib.cell_of_heap h.hbw]; rfl
theorem Bw.c3 {bw fb bb : Nat} {bufv : Value} {l1 l2 : List UInt8} {w : World} (h : Bw bw fb bb bufv l1 l2 w) : w.cell? ⟨bw, 3, none⟩ = some (.iface 70 (.pointer (some ⟨bb, 0, none⟩))) := by rw [Lib.cell_of_heap h.hbw]; rfl
theorem Bw.f {bw fb bb : Nat} {bufv : Value} {l1 l2 : List UInt8} {w : World} (h : Bw bw fb bb bufv l1 l2 w) (i : Nat) : w.frozen? ⟨bw, i, none⟩ = false := Lib.frozen_of_heap h.hbw i

/-- What the writer owns. -/
def Bw.S (bw bb fb : Nat) (bufv : Value) : Nat → Prop := fun k => k = bw ∨ k = bb ∨ k = fb ∨ some k = bufv.ownBlock

theorem Bw.drewN {bw fb bb : Nat} {bufv : Value} {l1 l2 : List UInt8} {w : World} (h : Bw bw fb bb bufv l1 l2 w) (n : Nat) : Bw bw fb bb bufv l1 l2 (w.drewN n) := ⟨h.hbw, h.hfb, h.hle, h.hbb, h.hne⟩
theorem Bw.drew {bw fb bb : Nat} {bufv : Value} {l1 l2 : List UInt8} {w : World} (h : Bw bw fb bb bufv l1 l2 w) : Bw bw fb bb bufv l1 l2 w.drew := ⟨h.hbw, h.hfb, h.hle, h.hbb, h.hne⟩

theorem Bw.kept {bw fb bb : Nat} {bufv : Value} {l1 l2 : List UInt8} {w w' : World} {S : Nat → Prop} (h : Bw bw fb bb bufv l1 l2 w) (f : Fr S w w') (hs : ∀ k, Bw.S bw bb fb bufv k → ¬ S k) : Bw bw fb bb bufv l1 l2 w' := by
  obtain ⟨cur, q1, q2, q3⟩ := h.hfb
  obtain ⟨⟨lr, p1⟩, p2, p3⟩ := h.hbb
  refine ⟨f.heap h.hbw (hs _ (Or.inl rfl)), ⟨cur, f.heap q1 (hs _ (Or.inr (Or.inr (Or.inl rfl)))), q2, q3⟩, h.hle, ⟨⟨lr, f.heap p1 (hs _ (Or.inr (Or.inl rfl)))⟩, f.owns p2 (fun k hk => hs _ (Or.inr (Or.inr (Or.inr hk.symm)))), p3⟩, h.hne⟩

set_option maxHeartbeats 1000000 in
theorem available (bw fb bb : Nat) (bufv : Value) (l1 l2 : List UInt8) (w : World) (h : Bw bw fb bb bufv l1 l2 w) :
    Calls Tryd.prog 48 #[.pointer (some ⟨bw, 0, none⟩)] w fun e w' => e = .returned (.int .i64 ((4096 : Int) - (l2.length : Int))) ∧ ∃ n, w' = w.drewN n := by
  have c1 := h.c1; have c2 := h.c2; have hle := h.hle
  clear h
  go_enter Tryd.func48, Tryd.ntmps48
  go_wp2
  go_quiet (fail)
  go_wp2
  go_ret
  exact ⟨rfl, _, rfl⟩

set_option maxHeartbeats 1000000 in
theorem buffered (bw fb bb : Nat) (bufv : Value) (l1 l2 : List UInt8) (w : World) (h : Bw bw fb bb bufv l1 l2 w) :
    Calls Tryd.prog 49 #[.pointer (some ⟨bw, 0, none⟩)] w fun e w' => e = .returned (.int .i64 (l2.length : Int)) ∧ w' = w := by
  have c2 := h.c2; have hle := h.hle
  clear h
  go_enter Tryd.func49, Tryd.ntmps49
  go_wp2
  go_ret
  exact ⟨rfl, rfl⟩

theorem nilWrite (a : Addr) (w : World) : (nilAhead 268 70 (.pointer (some a)) "Write").run Tryd.prog w = .ok (some false) w := by kernel_rfl
theorem methWrite (a : Addr) (w : World) : (method 268 70 (.pointer (some a)) "Write").run Tryd.prog w = .ok (82, .pointer (some a)) w := by kernel_rfl
theorem nilWriteString (a : Addr) (w : World) : (nilAhead 268 70 (.pointer (some a)) "WriteString").run Tryd.prog w = .ok (some false) w := by kernel_rfl
theorem methWriteString (a : Addr) (w : World) : (method 268 70 (.pointer (some a)) "WriteString").run Tryd.prog w = .ok (83, .pointer (some a)) w := by kernel_rfl

set_option maxHeartbeats 1000000 in
theorem flush (bw fb bb : Nat) (bufv : Value) (l1 l2 : List UInt8) (w : World) (h : Bw bw fb bb bufv l1 l2 w) (h2 : l2 ≠ []) (hlim : l1.length + l2.length ≤ 140737488355328) :
    Calls Tryd.prog 40 #[.pointer (some ⟨bw, 0, none⟩)] w fun e w' => e = .returned .nilIface ∧ ∃ bufv', Bw bw fb bb bufv' (l1 ++ l2) [] w' ∧ RowNew w bufv bufv' ∧ Fr (fun k => k = bw ∨ k = bb ∨ some k = bufv.ownBlock) w w' := by
  have c0 := h.c0; have c1 := h.c1; have c2 := h.c2; have c3 := h.c3; have hle := h.hle
  have hn0 : (((l2.length : Nat) : Int) == 0) = false := by have := List.length_pos_iff.2 h2; rw [beq_eq_false_iff_ne]; omega
  have hS : ∀ k, Bw.S bw bb fb bufv k → True := fun _ _ => trivial
  obtain ⟨cur, hf, hcs, htk⟩ := h.hfb
  have hbb := h.hbb
  have hab : fb ≠ bb := by obtain ⟨⟨lr, q⟩, -, -⟩ := hbb; exact tag_ne hf q (by decide)
  have hi1 : (0 : Int) ≤ (l2.length : Int) := by omega
  have hi2 : (l2.length : Int) ≤ 4096 := by omega
  have hn1 : 1 ≤ l2.length := List.length_pos_iff.2 h2
  have hbw := h.hbw
  have hbwne : ∀ k, bufv.ownBlock = some k → k ≠ bw := fun k hk e => by
    obtain ⟨c, hc⟩ := own_tag hbb.2.1 hk
    exact tag_ne hc hbw (by decide) e
  have hbwb : bw ≠ bb := by obtain ⟨⟨lr, q⟩, -, -⟩ := hbb; exact tag_ne hbw q (by decide)
  have hfbw : fb ≠ bw := tag_ne hf hbw (by decide)
  have hne := h.hne
  have hW : Calls Tryd.prog 82 #[.pointer (some ⟨bb, 0, none⟩), .slice (some ⟨fb, 0, none⟩) l2.length 4096] w.drew fun e w' => e = .returned (.tuple #[.int .i64 l2.length, .nilIface]) ∧
      ∃ v', BufAt bb v' (Lib.byteCells (l1 ++ l2)) w' ∧ RowNew w bufv v' ∧ Fr (fun k => k = bb ∨ some k = bufv.ownBlock) w w' := by
    refine (buf_Write bb bufv (Lib.byteCells l1) (Lib.byteCells l2) ⟨fb, 0, none⟩ l2.length 4096 w.drew hbb (Lib.byteCells_one _) (Lib.byteCells_length _) hn1 hab ?_ (Lib.byteCells_one _) (by rw [Lib.byteCells_length]; exact hlim)).mono ?_
    · intro j x hj
      rw [← htk] at hj
      exact Lib.cells_of_row (w := w) hf _ j x hj
    · rintro e w' ⟨rfl, v', q1, q2, q3⟩
      rw [← Lib.byteCells_append] at q1
      exact ⟨rfl, v', q1, q2, ⟨q3.os, q3.tape, q3.output, q3.size, q3.block⟩⟩
  have hW2 : Calls Tryd.prog 82 #[.pointer (some ⟨bb, 0, none⟩), .slice (some ⟨fb, 0, none⟩) l2.length 4096] w.drew fun e w' => e = .returned (.tuple #[.int .i64 l2.length, .nilIface]) ∧
      (w'.cell? ⟨bw, 1, none⟩ = some (.slice (some ⟨fb, 0, none⟩) 4096 4096) ∧ w'.cell? ⟨bw, 2, none⟩ = some (.int .i64 (l2.length : Int)) ∧ w'.cell? ⟨bw, 3, none⟩ = some (.iface 70 (.pointer (some ⟨bb, 0, none⟩))) ∧ w'.frozen? ⟨bw, 2, none⟩ = false) ∧
      ∃ v', BufAt bb v' (Lib.byteCells (l1 ++ l2)) w' ∧ RowNew w bufv v' ∧ Fr (fun k => k = bb ∨ some k = bufv.ownBlock) w w' := by
    refine hW.mono ?_
    rintro e w' ⟨rfl, v', q1, q2, q3⟩
    have hk : ¬ (bw = bb ∨ some bw = bufv.ownBlock) := by rintro (e | e); exact hbwb e; exact hbwne bw e.symm rfl
    exact ⟨rfl, ⟨q3.cell c1 hk, q3.cell c2 hk, q3.cell c3 hk, Lib.frozen_of_heap (q3.heap hbw hk) 2⟩, v', q1, q2, q3⟩
  clear h hS hW
  have hn1' := nilWrite
  have hm1' := methWrite
  go_enter Tryd.func40, Tryd.ntmps40
  go_wp2
  go_region_held3 (fun w' => w'.cell? ⟨bw, 1, none⟩ = some (.slice (some ⟨fb, 0, none⟩) 4096 4096) ∧ w'.cell? ⟨bw, 2, none⟩ = some (.int .i64 (l2.length : Int)) ∧ w'.cell? ⟨bw, 3, none⟩ = some (.iface 70 (.pointer (some ⟨bb, 0, none⟩)))) (go_keep)
    (first | (go_at_call 82; refine hW2.mono ?_; rintro e W1 ⟨rfl, ⟨d1, d2, d3, d4⟩, v', q1, q2, q3⟩))
  clear c0 c1 c2 c3 hW2 hn1' hm1'
  go_wp2
  go_ret
  have hk : ¬ (bw = bb ∨ some bw = bufv.ownBlock) := by rintro (e | e); exact hbwb e; exact hbwne bw e.symm rfl
  have hkf : ¬ (fb = bb ∨ some fb = bufv.ownBlock) := by rintro (e | e); exact hab e; exact hne e.symm
  have hf1 := q3.heap hf hkf
  have hv' : v'.ownBlock ≠ some fb := by
    rcases q2 with e | ⟨k, e, hk'⟩
    · rw [e]; exact hne
    · rw [e]; intro e'; cases e'; have := Lib.lt_of_heap hf; omega
  have hsf : Fr (fun k => k = bw) W1 (W1.setCell ⟨bw, 2, none⟩ (.int .i64 0)) := (Fr.refl (fun k => k = bw) W1).setCell (p := ⟨bw, 2, none⟩) (Or.inl rfl) _
  obtain ⟨⟨lr, p1⟩, p2, p3⟩ := q1
  refine ⟨rfl, v', ⟨Lib.heap_setCell_same (i := 2) (q3.heap hbw hk) _, ⟨cur, hsf.heap hf1 hfbw, hcs, by simp [Lib.byteCells]⟩, Nat.zero_le _, ⟨⟨lr, hsf.heap p1 (Ne.symm hbwb)⟩, hsf.owns p2 ?_, p3⟩, hv'⟩, q2, ?_⟩
  · intro k hk' e
    obtain ⟨c, hc⟩ := own_tag p2 hk'
    exact tag_ne hc (q3.heap hbw hk) (by decide) e
  · exact (q3.mono (S' := fun k => k = bw ∨ k = bb ∨ some k = bufv.ownBlock) (fun k h => Or.inr h)).setCell (p := ⟨bw, 2, none⟩) (Or.inl (Or.inl rfl)) _

theorem size25 (W : World) : (sizeOf (Tryd.prog.elem 25)).run Tryd.prog W = .ok 1 W := by kernel_rfl
theorem slice_l (b o len cap n : Nat) (h1 : n ≤ len) (h2 : n < cap) (W : World) : (Instr.slice 25 (.slice (some ⟨b, o, none⟩) len cap) (some (.int .i64 (n : Int))) none none).run Tryd.prog W = .ok (.slice (some ⟨b, o + n, none⟩) (len - n) (cap - n)) W := by
  rw [run_slice_l W 25 _ _ _ (by kernel_rfl) .i64 (n : Int) (by omega) (by omega)]
  have : ¬ cap = n := by omega
  simp [sliced, size25, this, Lib.addr_add]
theorem slice_l0 (b len cap n : Nat) (h1 : n ≤ len) (h2 : n < cap) (W : World) : (Instr.slice 25 (.slice (some ⟨b, 0, none⟩) len cap) (some (.int .i64 (n : Int))) none none).run Tryd.prog W = .ok (.slice (some ⟨b, n, none⟩) (len - n) (cap - n)) W := by
  have := slice_l b 0 len cap n h1 h2 W
  rw [Nat.zero_add] at this
  exact this
theorem slice_full (b o len n : Nat) (h : n = len) (W : World) : (Instr.slice 25 (.slice (some ⟨b, o, none⟩) len len) (some (.int .i64 (n : Int))) none none).run Tryd.prog W = .ok (.slice (some ⟨b, o, none⟩) 0 0) W := by
  rw [run_slice_l W 25 _ _ _ (by kernel_rfl) .i64 (n : Int) (by omega) (by omega)]
  simp [sliced, size25, h]
end Go.Proofs.Qxb6614442aDoor
