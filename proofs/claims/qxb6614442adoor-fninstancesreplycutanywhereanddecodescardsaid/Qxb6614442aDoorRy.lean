import Derived.Test.Qxb6614442aDoorRx
namespace Go.Proofs.Qxb6614442aDoor
open Go.RowKit

theorem notWriter (a : Addr) (w : World) : (Instr.typeAssert (.iface 70 (.pointer (some a))) 97 98 true).run Tryd.prog w = .ok (.tuple #[.pointer none, .bool false]) w := by kernel_rfl

theorem make4096 : ∃ M : Array Value, M.size = 4096 ∧ ∀ W : World, (Instr.makeSlice 25 (.int .i64 4096) (.int .i64 4096)).run Tryd.prog W = .ok (.slice (some ⟨W.heap.size, 0, none⟩) 4096 4096) (W.alloc (.cells M 5)) := by
  obtain ⟨i0, hi, hz0, hz1, hz2⟩ := info_parts infoByte
  refine ⟨madeCells (Value.int .u8 0).cells ((4096 : Int).toNat * i0.size), by rw [size_madeCells, hz1]; rfl, fun W => ?_⟩
  have h := run_makeSlice (P := Tryd.prog) W 25 5 i0 (.int .u8 0) Tryd.underlying25 hi hz0 .i64 .i64 4096 4096 (by omega) (by omega) (by rw [hz1]; decide) (by rw [hz2]; decide) (by decide)
  simpa using h

set_option maxHeartbeats 1000000 in
theorem newWriter (bb : Nat) (lr : Int) (w : World) (hbb : w.heap[bb]? = some (.cells #[.slice none 0 0, .int .i64 0, .int .i8 lr] 67 (0, 0))) (htab : Tab w) (h2 : 2 ≤ bb) :
    Calls Tryd.prog 30 #[.iface 70 (.pointer (some ⟨bb, 0, none⟩))] w fun e w' => ∃ s : St, e = .returned (.pointer (some ⟨s.rw, 0, none⟩)) ∧ s.bb = bb ∧ s.Is [] w' ∧ (∀ k, s.S k → k = bb ∨ w.heap.size ≤ k) ∧ Fr (fun _ => False) w w' := by
  obtain ⟨M, hMs, hmk⟩ := make4096
  have hnw := notWriter
  go_enter Tryd.func30, Tryd.ntmps30
  go_wp2
  go_ret
  have hlt := Lib.lt_of_heap hbb
  have hfr : ∀ o1 o2 o3, Fr (fun _ => False) w (((w.alloc o1).alloc o2).alloc o3) := fun o1 o2 o3 => (((Fr.refl (fun _ => False) w).alloc o1).alloc o2).alloc o3
  refine ⟨⟨w.heap.size + 2, w.heap.size + 1, w.heap.size, bb, .slice none 0 0, .slice none 0 0⟩, rfl, rfl, ⟨⟨2, ?_⟩, ⟨[], [], rfl, ⟨?_, ⟨M, ?_, hMs, by simp [Lib.byteCells]⟩, Nat.zero_le _, ⟨⟨lr, (hfr _ _ _).heap hbb (fun h => h)⟩, World.ownsRow_nil _ _ _ _, fun _ => rfl⟩, by simp [Value.ownBlock]⟩⟩, ⟨0, [], World.ownsRow_nil _ _ _ _⟩, by simp [Value.ownBlock], by simp [Value.ownBlock], htab.fr (hfr _ _ _) (fun h => h), ?_⟩, ?_, hfr _ _ _⟩
  · show (((w.heap.push _).push _).push _)[w.heap.size + 2]? = _
    simp only [Array.getElem?_push, Array.size_push]
    rw [if_pos trivial]
  · show (((w.heap.push _).push _).push _)[w.heap.size + 1]? = _
    simp only [Array.getElem?_push, Array.size_push]
    rw [if_neg (by omega), if_pos trivial]
    rfl
  · show (((w.heap.push _).push _).push _)[w.heap.size]? = _
    simp only [Array.getElem?_push, Array.size_push]
    rw [if_neg (by omega), if_neg (by omega), if_pos trivial]
  · have := htab.lt
    rintro k (e | e | e | e | e | e)
    · show 2 ≤ k; simp at e; omega
    · simp at e; omega
    · simp at e; omega
    · simp at e; omega
    · simp [Value.ownBlock] at e
    · simp [Value.ownBlock] at e
  · rintro k (e | e | e | e | e | e)
    · simp at e; exact Or.inr (by omega)
    · simp at e; exact Or.inr (by omega)
    · simp at e; exact Or.inr (by omega)
    · exact Or.inl e
    · simp [Value.ownBlock] at e
    · simp [Value.ownBlock] at e

set_option maxHeartbeats 400000 in
theorem flush_none (bw fb bb : Nat) (bufv : Value) (l1 : List UInt8) (w : World) (h : Bw bw fb bb bufv l1 [] w) :
    Calls Tryd.prog 40 #[.pointer (some ⟨bw, 0, none⟩)] w fun e w' => e = .returned .nilIface ∧ w' = w := by
  have c0 := h.c0; have c2 := h.c2
  simp only [List.length_nil] at c2
  clear h
  go_enter Tryd.func40, Tryd.ntmps40
  go_wp2
  go_ret
  exact ⟨rfl, rfl⟩

set_option maxHeartbeats 400000 in
theorem rflush (s : St) (l : List UInt8) (w : World) (h : s.Is l w) (hlim : l.length ≤ 1073741824) :
    Calls Tryd.prog 32 #[.pointer (some ⟨s.rw, 0, none⟩)] w fun e w' => e = .returned .nilIface ∧ ∃ v, BufAt s.bb v (Lib.byteCells l) w' ∧ Fr s.S w w' := by
  have c0 := h.c0
  obtain ⟨l1, l2, hl, hB⟩ := h.hB
  have hF : Calls Tryd.prog 40 #[.pointer (some ⟨s.bw, 0, none⟩)] w fun e w' => e = .returned .nilIface ∧ ∃ v, BufAt s.bb v (Lib.byteCells l) w' ∧ Fr s.S w w' := by
    by_cases h2 : l2 = []
    · subst h2
      refine (flush_none s.bw s.fb s.bb s.bufv l1 w hB).mono ?_
      rintro e w' ⟨rfl, rfl⟩
      refine ⟨rfl, s.bufv, ?_, Fr.refl _ _⟩
      rw [← hl, List.append_nil]
      exact hB.hbb
    · refine (flush s.bw s.fb s.bb s.bufv l1 l2 w hB h2 (by rw [← hl, List.length_append] at hlim; omega)).mono ?_
      rintro e w' ⟨rfl, v, hB', -, hf⟩
      refine ⟨rfl, v, by rw [← hl]; exact hB'.hbb, hf.mono ?_⟩
      rintro k (e | e | e)
      · exact Or.inr (Or.inl e)
      · exact Or.inr (Or.inr (Or.inr (Or.inl e)))
      · exact Or.inr (Or.inr (Or.inr (Or.inr (Or.inr e))))
  clear h hB
  go_enter Tryd.func32, Tryd.ntmps32
  go_wp2_with (go_at_call 40; refine hF.mono ?_; rintro e w' ⟨rfl, hs⟩)
  go_wp2
  go_ret
  exact ⟨rfl, hs⟩

/-- (*bytes.Buffer).Bytes. -/
theorem bytes_of (bb : Nat) (v : Value) (l : List UInt8) (w : World) (h : BufAt bb v (Lib.byteCells l) w) :
    Calls Tryd.prog 33 #[.pointer (some ⟨bb, 0, none⟩)] w fun e w' => ∃ r, e = .returned r ∧ w'.ownsRow 0 5 1 r l.length (Lib.byteCells l) ∧ ∃ n, w' = w.drewN n := by
  obtain ⟨⟨lr, hbk⟩, hown, hemp⟩ := h
  have hI : Lib.IsBuffer 67 5 0 bb (Lib.byteCells l) w := ⟨Nat.zero_le _, v, lr, hbk, hown, fun e => by obtain ⟨c, hc⟩ := own_tag hown e; exact tag_ne hc hbk (by decide) rfl⟩
  have := Tryd.Buffer_Bytes 0 bb _ w hI
  rw [Lib.byteCells_length] at this
  exact this
end Go.Proofs.Qxb6614442aDoor
