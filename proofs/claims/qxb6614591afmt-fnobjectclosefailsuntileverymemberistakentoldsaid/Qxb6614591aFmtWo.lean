import Derived.Test.Qxb6614591aFmtCl
namespace Go.Proofs.Qxb6614591aFmt
open Go.RowKit

theorem bytes_ne {a b : ByteArray} (h : ¬ a = b) : ¬ a.toList = b.toList := by
  intro e
  rw [ByteArray.toList_eq, ByteArray.toList_eq] at e
  have h2 : a.data = b.data := Array.toList_inj.1 e
  cases a; cases b; simp at h2; exact h (by rw [h2])

/-- xs without v. -/
def without (xs : List ByteArray) (v : ByteArray) : List ByteArray := xs.filter (fun x => !(x.toList == v.toList))

theorem without_nil (v : ByteArray) : without [] v = [] := rfl
theorem without_snoc_ne {xs : List ByteArray} {q v : ByteArray} (h : ¬ q = v) : without (xs ++ [q]) v = without xs v ++ [q] := by
  unfold without
  have e : (q.toList == v.toList) = false := by simpa using bytes_ne h
  rw [List.filter_append]
  simp [e]
theorem without_snoc_eq {xs : List ByteArray} {v : ByteArray} : without (xs ++ [v]) v = without xs v := by
  unfold without
  rw [List.filter_append]
  simp
theorem without_sub {xs : List ByteArray} {v s : ByteArray} (h : s ∈ without xs v) : s ∈ xs := by
  unfold without at h
  exact (List.mem_filter.1 h).1
theorem without_len (xs : List ByteArray) (v : ByteArray) : (without xs v).length ≤ xs.length := by
  unfold without
  exact List.length_filter_le _ _

set_option maxHeartbeats 1000000 in
set_option maxRecDepth 20000 in
theorem zzWithout (xs : List ByteArray) (p : Option Addr) (c : Nat) (v : ByteArray) (w : World) (hxl : xs.length ≤ 1048576) (hX : Strs p xs w) :
    Calls Tryf.prog 16 #[.slice p xs.length c, .string v] w (Cloned (without xs v) w) := by
  obtain ⟨i0, hi0, hz0, hz1, hz2⟩ := info_parts info9
  have hln : (xs.length : Int) ≤ 1048576 := by omega
  go_enter Tryf.func16, Tryf.ntmps16
  go_wp2_with (at_make; refine wpList_make_own _ rfl _ _ 32 rfl w.heap.size 9 i0 _ 1 Tryf.underlying32 hi0 hz0 hz1 .i64 .i64 _ xs.length rfl rfl rfl (by rw [hz2]; omega) (by unfold maxLen; omega) (Nat.le_refl _) ?_; intro w1 hown1 hgrow1; refine Hid.out ?_)
  refine Lib.hid ?_
  have hB1 : Below w.heap.size w w1 := (Below.refl _ _).grown hgrow1 (Nat.le_refl _) (fun k hk => by cases hk)
  have HO1 := Lib.hid hown1
  have HB1 := Lib.hid hB1
  clear hown1 hgrow1 hB1
  go_wp2
  go_loopg [5, 6] xs.length (fun gk sv kv wr => ∃ k m : Nat, gk + k = xs.length ∧ kv = .int .i64 (k : Int) ∧ m = (without (xs.take k) v).length ∧ m ≤ k ∧ sv = .slice (some ⟨w.heap.size, 0, none⟩) m xs.length ∧ wr.ownsRow w.heap.size 9 1 (.slice (some ⟨w.heap.size, 0, none⟩) m xs.length) m ((without (xs.take k) v).map Value.string) ∧ Below w.heap.size w wr)
  case atStart => exact ⟨0, 0, by omega, rfl, by simp [without_nil], Nat.le_refl _, rfl, by simpa [without_nil] using Hid.out HO1, Hid.out HB1⟩
  case round =>
    clear HO1 HB1
    obtain ⟨k, m, hk, rfl, hm, hmk, rfl, hown, hB⟩ := hrel
    have Hk := Lib.hid hk
    have Hm := Lib.hid hm
    clear hk hm
    by_cases hlt : k < xs.length
    · have hqk : xs[k]? = some xs[k] := List.getElem?_eq_getElem hlt
      generalize xs[k] = q at hqk
      have hlti : (k : Int) < (xs.length : Int) := by omega
      have hk0 : (0 : Int) ≤ (k : Int) := by omega
      rcases hX with he | ⟨qb, qo, rfl, hqb, hc⟩
      · rw [he] at hqk; simp at hqk
      have a0 := (hB.cell (p := ⟨qb, qo + k, none⟩) hqb).trans (hc k _ hqk)
      have hqw : qb < wr.heap.size := Nat.lt_of_lt_of_le hqb hB.size
      have HQ := Lib.hid hqk
      have HB := Lib.hid hB
      have HO := Lib.hid hown
      clear hc hqk hB hown
      by_cases hqv : q = v
      · subst hqv
        go_wp2
        go_roundg (gk - 1)
        case measure => have := Hk.out; omega
        case rel =>
          have e1 : without (xs.take (k + 1)) q = without (xs.take k) q := by rw [take_snoc _ _ _ (Hid.out HQ), without_snoc_eq]
          exact ⟨k + 1, m, by have := Hk.out; omega, by go_num, by rw [e1]; exact Hid.out Hm, by omega, rfl, by rw [e1]; exact Hid.out HO, Hid.out HB⟩
      · have hne : (q.toList == v.toList) = false := by simpa using bytes_ne hqv
        have hoa := (Hid.out HO).alloc (.cells #[.string q] 9)
        go_wp2_with (at_builtin; refine wpList_append_fits _ rfl _ _ 32 rfl w.heap.size 9 i0 1 Tryf.underlying32 hi0 hz1 w.heap.size m xs.length _ rfl hoa ⟨wr.heap.size, 0, none⟩ 1 1 [.string q] rfl (by simp) (by intro j u hj; match j, hj with | 0, hj => (cases hj; simp only [Addr.add]; go_simp)) (by simp [Value.oneCell']) (by omega) ?_; intro w1 hown1 hgrow1; refine Hid.out ?_)
        refine Lib.hid ?_
        clear hoa
        have HO1 := Lib.hid hown1
        have hB1 : Below w.heap.size w w1 := ((Hid.out HB).alloc (Hid.out HB).size _).grown hgrow1 (by have := (Hid.out HB).size; simp; omega) (fun j hj => by cases hj; exact Nat.le_refl _)
        have HB1 := Lib.hid hB1
        clear hown1 hgrow1 hB1 a0
        go_wp2
        go_roundg (gk - 1)
        case measure => have := Hk.out; omega
        case rel =>
          have e1 : without (xs.take (k + 1)) v = without (xs.take k) v ++ [q] := by rw [take_snoc _ _ _ (Hid.out HQ), without_snoc_ne hqv]
          exact ⟨k + 1, m + 1, by have := Hk.out; omega, by go_num, by rw [e1, List.length_append]; have := Hid.out Hm; simp; omega, by omega, rfl, by rw [e1, List.map_append]; exact Hid.out HO1, Hid.out HB1⟩
    · have hleq : (xs.length : Int) ≤ (k : Int) := by have := Hk.out; omega
      have HB := Lib.hid hB
      have HO := Lib.hid hown
      clear hB hown
      go_wp2
      go_ret
      have hm := Hid.out Hm
      have ho := Hid.out HO
      rw [List.take_of_length_le (by omega)] at hm ho
      subst hm
      refine ⟨some ⟨w.heap.size, 0, none⟩, xs.length, rfl, ?_, Hid.out HB⟩
      refine Or.inr ⟨w.heap.size, 0, rfl, (ho.lt _ rfl).2, fun i s hi => ?_⟩
      rw [Nat.zero_add]
      have hil := (List.getElem?_eq_some_iff.1 hi).1
      rw [ho.cellAt i (by omega), List.getElem?_map, hi]
      rfl
end Go.Proofs.Qxb6614591aFmt
