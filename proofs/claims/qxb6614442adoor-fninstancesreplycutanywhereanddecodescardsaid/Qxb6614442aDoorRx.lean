import Derived.Test.Qxb6614442aDoorRw
namespace Go.Proofs.Qxb6614442aDoor
open Go.RowKit

theorem St.Is.mid {s : St} {l : List UInt8} {w : World} (h : s.Is l w) : ∃ l1 l2 n xs pr, l1 ++ l2 = l ∧ Mid s.rw s.bw s.fb s.bb s.numv s.numv s.bufv l1 l2 n xs pr w := by
  obtain ⟨pr, hrw⟩ := h.hrw
  obtain ⟨l1, l2, hl, hB⟩ := h.hB
  obtain ⟨n, xs, hown⟩ := h.hown
  have hlo : 2 ≤ s.rw ∧ 2 ≤ s.bw ∧ 2 ≤ s.fb ∧ 2 ≤ s.bb := ⟨h.lo _ (Or.inl rfl), h.lo _ (Or.inr (Or.inl rfl)), h.lo _ (Or.inr (Or.inr (Or.inl rfl))), h.lo _ (Or.inr (Or.inr (Or.inr (Or.inl rfl))))⟩
  exact ⟨l1, l2, n, xs, pr, hl, ⟨hrw, hB, hown, h.hnf, h.hnb, h.tab, hlo, fun k e => h.lo _ (Or.inr (Or.inr (Or.inr (Or.inr (Or.inl e.symm))))), fun k e => h.lo _ (Or.inr (Or.inr (Or.inr (Or.inr (Or.inr e.symm)))))⟩⟩

theorem Mid.st {rw bw fb bb : Nat} {v bufv : Value} {l1 l2 : List UInt8} {n : Nat} {xs : List Value} {pr : Int} {w : World} (h : Mid rw bw fb bb v v bufv l1 l2 n xs pr w) : (⟨rw, bw, fb, bb, v, bufv⟩ : St).Is (l1 ++ l2) w := by
  refine ⟨⟨pr, h.hrw⟩, ⟨l1, l2, rfl, h.hB⟩, ⟨n, xs, h.hown⟩, h.hnf, h.hnb, h.tab, ?_⟩
  have hl := h.lo
  rintro k (e | e | e | e | e | e)
  · exact e ▸ hl.1
  · exact e ▸ hl.2.1
  · exact e ▸ hl.2.2.1
  · exact e ▸ hl.2.2.2
  · exact h.lov k e.symm
  · exact h.lob k e.symm

/-- What was there and is no part of the writer is there still. -/
theorem St.Next.fr {s s' : St} {w w' w'' : World} (h : s.Next s' w) (f : Fr s.S w w') (g : Fr s'.S w' w'') : Fr s.S w w'' := f.trans g h.2.2.2

theorem St.Next.trans {s s' s'' : St} {w w' : World} (h : s.Next s' w) (g : s'.Next s'' w') (hs : w.heap.size ≤ w'.heap.size) : s.Next s'' w :=
  ⟨g.1.trans h.1, g.2.1.trans h.2.1, g.2.2.1.trans h.2.2.1, fun k hk => (g.2.2.2 k hk).elim (h.2.2.2 k) (fun e => Or.inr (by omega))⟩

/-- bufio's WriteString on the writer's own bufio.Writer. -/
theorem wstr (s : St) (l : List UInt8) (t : ByteArray) (w : World) (h : s.Is l w) (hlim : l.length + t.size ≤ 1073741824) :
    Calls Tryd.prog 45 #[.pointer (some ⟨s.bw, 0, none⟩), .string t] w fun e w' => e = .returned (.tuple #[.int .i64 t.size, .nilIface]) ∧ ∃ s' : St, s.Next s' w ∧ s'.Is (l ++ t.data.toList) w' ∧ Fr s.S w w' := by
  obtain ⟨l1, l2, n, xs, pr, hl, hM⟩ := h.mid
  refine (bw_WriteString s.bw s.fb s.bb s.bufv l1 l2 t w hM.hB (by rw [← hl, List.length_append] at hlim; exact hlim)).mono ?_
  rintro e w' ⟨rfl, bufv', l1', l2', q1, q2, q3, q4⟩
  have hI := (hM.wrote q2 q3 q4).st
  rw [q1, hl] at hI
  refine ⟨rfl, ⟨s.rw, s.bw, s.fb, s.bb, s.numv, bufv'⟩, ⟨rfl, rfl, rfl, ?_⟩, hI, q4.mono ?_⟩
  · rintro k (e | e | e | e | e | e)
    · exact Or.inl (Or.inl e)
    · exact Or.inl (Or.inr (Or.inl e))
    · exact Or.inl (Or.inr (Or.inr (Or.inl e)))
    · exact Or.inl (Or.inr (Or.inr (Or.inr (Or.inl e))))
    · exact Or.inl (Or.inr (Or.inr (Or.inr (Or.inr (Or.inl e)))))
    · rcases q3 with e' | ⟨k', e', hk'⟩
      · exact Or.inl (Or.inr (Or.inr (Or.inr (Or.inr (Or.inr (e.trans e'))))))
      · have e2 : k = k' := Option.some.inj (e.trans e')
        exact Or.inr (by omega)
  · rintro k (e | e | e | e)
    · exact Or.inr (Or.inl e)
    · exact Or.inr (Or.inr (Or.inr (Or.inl e)))
    · exact Or.inr (Or.inr (Or.inl e))
    · exact Or.inr (Or.inr (Or.inr (Or.inr (Or.inr e))))

/-- The encodings. -/
def num (c : UInt8) (i : Int) : List UInt8 := c :: (Lib.itoa i ++ [13, 10])
def bulk (l : List UInt8) : List UInt8 := num 36 l.length ++ (l ++ [13, 10])

theorem num_length (c : UInt8) (i : Int) (h0 : -9223372036854775808 ≤ i) (h1 : i ≤ 9223372036854775807) : (num c i).length ≤ 24 := by
  have := Lib.itoa_length_le i h0 h1
  simp [num]; omega

set_option maxHeartbeats 400000 in
theorem integer (s : St) (l : List UInt8) (i : Int) (w : World) (h : s.Is l w) (h0 : -9223372036854775808 ≤ i) (h1 : i ≤ 9223372036854775807) (hlim : l.length ≤ 1073741824) :
    Calls Tryd.prog 41 #[.pointer (some ⟨s.rw, 0, none⟩), .int .i64 i] w (Wrote s (l ++ num 58 i) w) := by
  have hh := header s l 58 58 i w h rfl h0 h1 hlim
  go_enter Tryd.func41, Tryd.ntmps41
  go_wp2_with (go_at_call 44; refine hh.mono ?_; rintro e w' ⟨rfl, hs⟩)
  go_wp2
  go_end0
  exact ⟨rfl, hs⟩

set_option maxHeartbeats 400000 in
theorem array (s : St) (l : List UInt8) (i : Int) (w : World) (h : s.Is l w) (h0 : -9223372036854775808 ≤ i) (h1 : i ≤ 9223372036854775807) (hlim : l.length ≤ 1073741824) :
    Calls Tryd.prog 39 #[.pointer (some ⟨s.rw, 0, none⟩), .int .i64 i] w (Wrote s (l ++ num 42 i) w) := by
  have hh := header s l 42 42 i w h rfl h0 h1 hlim
  go_enter Tryd.func39, Tryd.ntmps39
  go_wp2_with (go_at_call 44; refine hh.mono ?_; rintro e w' ⟨rfl, hs⟩)
  go_wp2
  go_end0
  exact ⟨rfl, hs⟩

theorem St.Is.c0 {s : St} {l : List UInt8} {w : World} (h : s.Is l w) : w.cell? ⟨s.rw, 0, none⟩ = some (.pointer (some ⟨s.bw, 0, none⟩)) := by
  obtain ⟨pr, hrw⟩ := h.hrw
  rw [Lib.cell_of_heap hrw]; rfl

set_option maxHeartbeats 400000 in
theorem bulk_w (s : St) (l : List UInt8) (t : ByteArray) (w : World) (h : s.Is l w) (hlim : l.length + t.size + 100 ≤ 1073741824) :
    Calls Tryd.prog 42 #[.pointer (some ⟨s.rw, 0, none⟩), .string t] w (Wrote s (l ++ bulk t.data.toList) w) := by
  have hh := header s l 36 36 (t.size : Int) w h rfl (by omega) (by omega) (by omega)
  have hnl := num_length 36 (t.size : Int) (by omega) (by omega)
  go_enter Tryd.func42, Tryd.ntmps42
  go_wp2_with (go_at_call 44; refine hh.mono ?_; rintro e w1 ⟨rfl, s1, hn1, hi1, hf1⟩; refine Hid.out ?_)
  refine Lib.hid ?_
  have c0 := hi1.c0
  rw [hn1.1] at c0
  have hw1 := wstr s1 _ t w1 hi1 (by rw [List.length_append]; show l.length + (num 36 (t.size : Int)).length + t.size ≤ _; omega)
  clear hh
  go_wp2_with (go_at_call 45; refine hw1.mono ?_; rintro e w2 ⟨rfl, s2, hn2, hi2, hf2⟩; refine Hid.out ?_)
  refine Lib.hid ?_
  have d0 := hi2.c0
  rw [hn2.1, hn1.1] at d0
  have hts : t.data.toList.length = t.size := (Lib.size_eq t).symm
  have hw2 := wstr s2 _ ⟨#[13, 10]⟩ w2 hi2 (by rw [List.length_append, List.length_append]; show l.length + (num 36 (t.size : Int)).length + t.data.toList.length + 2 ≤ _; omega)
  have Hts : Hid (t.data.toList.length = t.size) := hts
  clear hw1 c0 hts
  go_wp2_with (go_at_call 45; refine hw2.mono ?_; rintro e w3 ⟨rfl, s3, hn3, hi3, hf3⟩; refine Hid.out ?_)
  refine Lib.hid ?_
  go_wp2
  go_end0
  refine ⟨rfl, s3, (hn1.trans hn2 hf1.size).trans hn3 (Nat.le_trans hf1.size hf2.size), ?_, (hn1.trans hn2 hf1.size).fr (hn1.fr hf1 hf2) hf3⟩
  have e : l ++ bulk t.data.toList = l ++ (36 :: (Lib.itoa (t.size : Int) ++ [13, 10])) ++ t.data.toList ++ [13, 10] := by
    unfold bulk num
    rw [Hts.out]
    simp
  rw [e]
  exact hi3
end Go.Proofs.Qxb6614442aDoor
