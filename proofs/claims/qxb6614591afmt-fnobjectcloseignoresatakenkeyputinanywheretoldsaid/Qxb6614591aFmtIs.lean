import Derived.Test.Qxb6614591aFmtWo
namespace Go.Proofs.Qxb6614591aFmt
open Go.RowKit

set_option maxHeartbeats 1000000 in
set_option maxRecDepth 20000 in
theorem zzContains (xs : List ByteArray) (p : Option Addr) (c : Nat) (v : ByteArray) (w : World) (hxl : xs.length ≤ 1048576) (hX : Strs p xs w) :
    Calls Tryf.prog 20 #[.slice p xs.length c, .string v] w (fun e w' => ∃ b : Bool, e = .returned (.bool b) ∧ w' = w ∧ (b = false → ¬ v ∈ xs)) := by
  have hln : (xs.length : Int) ≤ 1048576 := by omega
  go_enter Tryf.func20, Tryf.ntmps20
  go_wp2
  go_loopg [5] xs.length (fun gk kv wr => ∃ k : Nat, gk + k = xs.length ∧ kv = .int .i64 (k : Int) ∧ (¬ v ∈ xs.take k) ∧ w = wr)
  case atStart => exact ⟨0, by omega, rfl, by simp, rfl⟩
  case round =>
    obtain ⟨k, hk, rfl, hn, hw⟩ := hrel
    subst hw
    have Hk := Lib.hid hk
    have Hn := Lib.hid hn
    clear hk hn
    by_cases hlt : k < xs.length
    · have hqk : xs[k]? = some xs[k] := List.getElem?_eq_getElem hlt
      generalize xs[k] = q at hqk
      have hlti : (k : Int) < (xs.length : Int) := by omega
      have hk0 : (0 : Int) ≤ (k : Int) := by omega
      rcases hX with he | ⟨qb, qo, rfl, hqb, hc⟩
      · rw [he] at hqk; simp at hqk
      have a0 := hc k _ hqk
      have HQ := Lib.hid hqk
      clear hc hqk
      by_cases hqv : q = v
      · subst hqv
        go_wp2
        go_ret
        exact ⟨true, rfl, rfl, fun h => by cases h⟩
      · have hne : (q.toList == v.toList) = false := by simpa using bytes_ne hqv
        go_wp2
        go_roundg (gk - 1)
        case measure => have := Hk.out; omega
        case rel =>
          refine ⟨k + 1, by have := Hk.out; omega, by go_num, ?_, rfl⟩
          rw [take_snoc _ _ _ (Hid.out HQ)]
          intro h
          rcases List.mem_append.1 h with h | h
          · exact Hid.out Hn h
          · exact hqv (List.mem_singleton.1 h).symm
    · have hleq : (xs.length : Int) ≤ (k : Int) := by have := Hk.out; omega
      go_wp2
      go_ret
      refine ⟨false, rfl, rfl, fun _ => ?_⟩
      have := Hid.out Hn
      rw [List.take_of_length_le (by omega)] at this
      exact this

def inserted (xs : List ByteArray) (a : Nat) (v : ByteArray) : List ByteArray := xs.take a ++ v :: xs.drop a

theorem inserted_len {xs : List ByteArray} {a : Nat} (v : ByteArray) (h : a ≤ xs.length) : (inserted xs a v).length = xs.length + 1 := by
  unfold inserted
  rw [List.length_append, List.length_take, List.length_cons, List.length_drop]
  omega
theorem inserted_lo {xs : List ByteArray} {a k : Nat} (v : ByteArray) (h : a ≤ xs.length) (hk : k < a) : (inserted xs a v)[k]? = xs[k]? := by
  unfold inserted
  rw [List.getElem?_append_left (by rw [List.length_take]; omega), List.getElem?_take, if_pos hk]
theorem inserted_at {xs : List ByteArray} {a : Nat} (v : ByteArray) (h : a ≤ xs.length) : (inserted xs a v)[a]? = some v := by
  unfold inserted
  rw [List.getElem?_append_right (by rw [List.length_take]; omega), List.length_take, Nat.min_eq_left h, Nat.sub_self]
  rfl
theorem inserted_hi {xs : List ByteArray} {a k : Nat} (v : ByteArray) (h : a ≤ xs.length) (hk : a ≤ k) : (inserted xs a v)[k + 1]? = xs[k]? := by
  unfold inserted
  rw [List.getElem?_append_right (by rw [List.length_take]; omega), List.length_take, Nat.min_eq_left h, show k + 1 - a = (k - a) + 1 by omega, List.getElem?_cons_succ, List.getElem?_drop]
  congr 1; omega
theorem mem_inserted {xs : List ByteArray} {a : Nat} {v s : ByteArray} : s ∈ inserted xs a v ↔ s = v ∨ s ∈ xs := by
  unfold inserted
  rw [List.mem_append, List.mem_cons]
  constructor
  · rintro (h | h | h)
    · exact Or.inr (List.mem_of_mem_take h)
    · exact Or.inl h
    · exact Or.inr (List.mem_of_mem_drop h)
  · rintro (h | h)
    · exact Or.inr (Or.inl h)
    · rw [← List.take_append_drop a xs] at h
      rcases List.mem_append.1 h with h | h
      · exact Or.inl h
      · exact Or.inr (Or.inr h)

set_option maxHeartbeats 1000000 in
set_option maxRecDepth 20000 in
theorem zzInsert (xs : List ByteArray) (p : Option Addr) (c a : Nat) (v : ByteArray) (w : World) (hxl : xs.length ≤ 1048576) (ha : a ≤ xs.length) (hX : Strs p xs w) :
    Calls Tryf.prog 21 #[.slice p xs.length c, .int .i64 (a : Int), .string v] w (Cloned (inserted xs a v) w) := by
  obtain ⟨M, hM, hmk⟩ := make_strs (xs.length + 1) (by omega)
  have hln : (xs.length : Int) ≤ 1048576 := by omega
  rw [show ((xs.length + 1 : Nat) : Int) = (xs.length : Int) + 1 by omega] at hmk
  go_enter Tryf.func21, Tryf.ntmps21
  go_wp2
  have hm0 : (w.alloc (.cells M 9)).heap[w.heap.size]? = some (.cells M 9 (0, 0)) := heap_alloc_new w (.cells M 9)
  go_loopg [8] a (fun gk kv wr => ∃ k : Nat, gk + k = a ∧ kv = .int .i64 (k : Int) ∧ Half w.heap.size (xs.length + 1) k (inserted xs a v) wr ∧ Below w.heap.size w wr)
  case atStart => exact ⟨0, by omega, rfl, ⟨M, hm0, hM, fun i s hi => absurd hi (by omega)⟩, (Below.refl _ _).alloc (Nat.le_refl _) _⟩
  case round =>
    obtain ⟨k, hk, rfl, hH, hB⟩ := hrel
    have Hk := Lib.hid hk
    clear hk hm0 hmk
    by_cases hlt : k < a
    · have hlt2 : k < xs.length := by omega
      have hqk : xs[k]? = some xs[k] := List.getElem?_eq_getElem hlt2
      generalize xs[k] = q at hqk
      have hlti : (k : Int) < (a : Int) := by omega
      have hlti2 : (k : Int) < (xs.length : Int) := by omega
      have hlti3 : (k : Int) < (xs.length : Int) + 1 := by omega
      have hk0 : (0 : Int) ≤ (k : Int) := by omega
      rcases hX with he | ⟨qb, qo, rfl, hqb, hc⟩
      · rw [he] at hqk; simp at hqk
      have a0 := (hB.cell (p := ⟨qb, qo + k, none⟩) hqb).trans (hc k _ hqk)
      have HH := Lib.hid hH
      obtain ⟨cur, hcu, hcs, hcf⟩ := hH
      obtain ⟨x0, e0⟩ : ∃ x, cur[k]? = some x := ⟨_, Array.getElem?_eq_getElem (by omega)⟩
      have d0 : wr.cell? ⟨w.heap.size, k, none⟩ = some x0 := by rw [Lib.cell_of_heap hcu]; exact e0
      have f0 := Lib.frozen_of_heap hcu k
      have HQ := Lib.hid hqk
      have HB := Lib.hid hB
      clear hc hqk hcu hcs hcf e0 hB
      go_wp2
      go_roundg (gk - 1)
      case measure => have := Hk.out; omega
      case rel => exact ⟨k + 1, by have := Hk.out; omega, by go_num, (Hid.out HH).put (by omega) ((inserted_lo v ha hlt).trans (Hid.out HQ)), (Hid.out HB).setCell (Nat.le_refl _) _⟩
    · have hleq : (a : Int) ≤ (k : Int) := by have := Hk.out; omega
      have hka : k = a := by have := Hk.out; omega
      subst hka
      have hlti3 : (k : Int) < (xs.length : Int) + 1 := by omega
      have hk0 : (0 : Int) ≤ (k : Int) := by omega
      have HB := Lib.hid hB
      have HH := Lib.hid hH
      obtain ⟨cur, hcu, hcs, hcf⟩ := hH
      obtain ⟨x0, e0⟩ : ∃ x, cur[k]? = some x := ⟨_, Array.getElem?_eq_getElem (by omega)⟩
      have d0 : wr.cell? ⟨w.heap.size, k, none⟩ = some x0 := by rw [Lib.cell_of_heap hcu]; exact e0
      have f0 := Lib.frozen_of_heap hcu k
      clear hcu hcs hcf e0 hB
      go_wp2
      have hH1 := (Hid.out HH).put (by omega) (inserted_at v ha)
      have hB1 := (Hid.out HB).setCell (p := ⟨w.heap.size, k, none⟩) (Nat.le_refl _) (.string v)
      clear d0 f0 HH HB
      go_loopg [9] (xs.length - k) (fun gk iv w2 => ∃ i : Nat, gk + i = xs.length ∧ k ≤ i ∧ iv = .int .i64 (i : Int) ∧ Half w.heap.size (xs.length + 1) (i + 1) (inserted xs k v) w2 ∧ Below w.heap.size w w2)
      case atStart => exact ⟨k, by omega, Nat.le_refl _, rfl, hH1, hB1⟩
      case round =>
        clear hH1 hB1 hlt hleq hlti3 Hk
        obtain ⟨i, hi, hki, rfl, hH, hB⟩ := hrel
        have Hi := Lib.hid hi
        clear hi
        by_cases hlt : i < xs.length
        · have hqk : xs[i]? = some xs[i] := List.getElem?_eq_getElem hlt
          generalize xs[i] = q at hqk
          have hlti2 : (i : Int) < (xs.length : Int) := by omega
          have hlti3 : (i : Int) + 1 < (xs.length : Int) + 1 := by omega
          have hi0 : (0 : Int) ≤ (i : Int) := by omega
          have hi1 : (0 : Int) ≤ (i : Int) + 1 := by omega
          rcases hX with he | ⟨qb, qo, rfl, hqb, hc⟩
          · rw [he] at hqk; simp at hqk
          have a0 := (hB.cell (p := ⟨qb, qo + i, none⟩) hqb).trans (hc i _ hqk)
          have HH := Lib.hid hH
          obtain ⟨cur, hcu, hcs, hcf⟩ := hH
          obtain ⟨x0, e0⟩ : ∃ x, cur[i + 1]? = some x := ⟨_, Array.getElem?_eq_getElem (by omega)⟩
          have d0 : wr.cell? ⟨w.heap.size, i + 1, none⟩ = some x0 := by rw [Lib.cell_of_heap hcu]; exact e0
          have f0 := Lib.frozen_of_heap hcu (i + 1)
          have HQ := Lib.hid hqk
          have HB := Lib.hid hB
          have hnat : ((i : Int) + 1).toNat = i + 1 := by omega
          clear hc hqk hcu hcs hcf e0 hB
          go_wp2
          go_roundg (gk - 1)
          case measure => have := Hi.out; omega
          case rel => exact ⟨i + 1, by have := Hi.out; omega, by omega, by go_num, (Hid.out HH).put (by omega) ((inserted_hi v ha hki).trans (Hid.out HQ)), (Hid.out HB).setCell (Nat.le_refl _) _⟩
        · have hleq : (xs.length : Int) ≤ (i : Int) := by have := Hi.out; omega
          have HB := Lib.hid hB
          have HH := Lib.hid hH
          clear hB hH
          go_wp2
          go_ret
          refine ⟨some ⟨w.heap.size, 0, none⟩, xs.length + 1, by rw [inserted_len v ha]; rfl, (Hid.out HH).strs (by rw [inserted_len v ha]; omega), Hid.out HB⟩
end Go.Proofs.Qxb6614591aFmt
