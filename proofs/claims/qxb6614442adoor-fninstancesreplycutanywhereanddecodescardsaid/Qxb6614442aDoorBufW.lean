import Derived.Test.Qxb6614442aDoorGrow
import Derived.Test.Qxb6614442aDoorGrowNil
import Derived.Test.Qxb6614442aDoorMem
import Derived.Laws.IdiomCopy
import Derived.Lib.BufferSrc
namespace Go.Proofs.Qxb6614442aDoor
open Go.RowKit

/-- What a write turns: the Buffer's own block, its row; a row that it has changed for is new. -/
theorem orMap {a b c : Prop} (h : a ∨ b) (f : b → c) : a ∨ c := by
  rcases h with h | h
  · exact Or.inl h
  · exact Or.inr (f h)

def RowNew (w : World) (v v' : Value) : Prop := v'.ownBlock = v.ownBlock ∨ ∃ k, v'.ownBlock = some k ∧ w.heap.size ≤ k

theorem infoSize : (Tryd.prog.info? 5).map (·.size) = some 1 := by kernel_rfl


/-- What grow leaves. -/
def Grew (b l n : Nat) (lr : Int) (bs : List Value) (w w' : World) : Prop := ∃ N cap2 cells, w.heap.size ≤ N ∧
      w'.heap[b]? = some (.cells #[.slice (some ⟨N, 0, none⟩) (l + n) cap2, .int .i64 0, .int .i8 lr] 67 (0, 0)) ∧ w'.heap[N]? = some (.cells cells 5 (0, 0)) ∧ cells.size = cap2 ∧ cells.toList.take l = bs ∧
      l + n ≤ cap2 ∧ cap2 ≤ maxLen ∧ w.grownBy w' (some b)

theorem grow_any (b n : Nat) (lr : Int) (v : Value) (bs : List Value) (w : World) (hbk : w.heap[b]? = some (.cells #[v, .int .i64 0, .int .i8 lr] 67 (0, 0))) (hown : w.ownsRow 0 5 1 v bs.length bs) (hemp : bs = [] → v = .slice none 0 0)
    (h1 : ∀ x ∈ bs, x.oneCell' = true) (hn1 : 1 ≤ n) (hlim : bs.length + n ≤ 140737488355328) (hroom : ∀ ao l cap, v = .slice ao l cap → cap - l < n) :
    Calls Tryd.prog 85 #[.pointer (some ⟨b, 0, none⟩), .int .i64 n] w fun e w' => e = .returned (.int .i64 bs.length) ∧ Grew b bs.length n lr bs w w' := by
  rcases hown.2 with ⟨rfl, h0⟩ | ⟨g, cap, cur, rfl, -, hg, hnc, hcm, hcs, htk⟩
  · have hb0 : bs = [] := List.eq_nil_of_length_eq_zero h0
    subst hb0
    by_cases h64 : n ≤ 64
    · refine (grow_nil_small b n lr w hbk hn1 h64).mono ?_
      rintro e w' ⟨rfl, N, cap2, cells, q1, q2, q3, q4, q5, q6, q7⟩
      exact ⟨rfl, N, cap2, cells, q1, by simpa using q2, q3, q4, by simp, by simpa using q5, q6, q7⟩
    · refine (grow_nil_big b n lr w hbk (by omega) (by simpa using hlim)).mono ?_
      rintro e w' ⟨rfl, N, cap2, cells, q1, q2, q3, q4, q5, q6, q7⟩
      exact ⟨rfl, N, cap2, cells, q1, by simpa using q2, q3, q4, by simp, by simpa using q5, q6, q7⟩
  · have hl1 : 1 ≤ bs.length := by
      rcases Nat.eq_zero_or_pos bs.length with h | h
      · have := hemp (List.eq_nil_of_length_eq_zero h); simp at this
      · exact h
    exact grow_row b g bs.length cap n lr cur bs w hbk rfl hl1 hg hnc hcm (by simpa using hcs) (by simpa using htk) (tag_ne hg hbk (by decide)) h1 hn1 (hroom _ _ _ rfl) hlim

set_option maxHeartbeats 6400000 in
set_option maxRecDepth 100000 in
theorem buf_Write_no (b : Nat) (ao : Option Addr) (l cap : Nat) (bs cs : List Value) (a : Addr) (n c : Nat) (w : World) (lr : Int)
    (hbk : w.heap[b]? = some (.cells #[.slice ao l cap, .int .i64 0, .int .i8 lr] 67 (0, 0))) (hlc : l ≤ cap) (hcap : cap ≤ maxLen) (hroom : cap - l < n)
    (hgr : Calls Tryd.prog 85 #[.pointer (some ⟨b, 0, none⟩), .int .i64 n] (w.setCell ⟨b, 2, none⟩ (.int .i8 0)) fun e w' => e = .returned (.int .i64 bs.length) ∧ Grew b bs.length n 0 bs w w')
    (hn : cs.length = n) (hn1 : 1 ≤ n) (hab : a.block ≠ b) (hsrc : ∀ j x, cs[j]? = some x → w.cell? (a.add j) = some x) (h1c : ∀ x ∈ cs, x.oneCell' = true) :
    Calls Tryd.prog 82 #[.pointer (some ⟨b, 0, none⟩), .slice (some a) n c] w fun e w' => e = .returned (.tuple #[.int .i64 n, .nilIface]) ∧ ∃ v', BufAt b v' (bs ++ cs) w' ∧ (∃ k, v'.ownBlock = some k ∧ w.heap.size ≤ k) ∧ Fr (fun k => k = b) w w' := by
  have c2 : w.cell? ⟨b, 2, none⟩ = some (.int .i8 lr) := by rw [Lib.cell_of_heap hbk]; rfl
  have f2 : w.frozen? ⟨b, 2, none⟩ = false := Lib.frozen_of_heap hbk 2
  have hbk1 : (w.setCell ⟨b, 2, none⟩ (.int .i8 0)).heap[b]? = some (.cells #[.slice ao l cap, .int .i64 0, .int .i8 0] 67 (0, 0)) := Lib.heap_setCell_same (i := 2) hbk _
  have d0 : (w.setCell ⟨b, 2, none⟩ (.int .i8 0)).cell? ⟨b, 0, none⟩ = some (.slice ao l cap) := by rw [Lib.cell_of_heap hbk1]; rfl
  clear hbk1 hbk
  go_enter Tryd.func82, Tryd.ntmps82
  go_wp2_with (go_at_call 84; refine (Tryd.Buffer_tryGrow_none b ao l cap n _ d0 hlc hcap hroom).mono ?_; rintro e w' ⟨rfl, rfl⟩)
  go_at_call 85
  refine hgr.mono ?_
  rintro e W1 ⟨rfl, N, cap2, cells, hN, hbk2, hg, hcs, htk, hl2, hcm, hgW⟩
  clear hgr d0 c2 f2
  have d0 : W1.cell? ⟨b, 0, none⟩ = some (.slice (some ⟨N, 0, none⟩) (bs.length + n) cap2) := by rw [Lib.cell_of_heap hbk2]; rfl
  have hne : ¬ cap2 = bs.length := by omega
  have hsrc1 : ∀ j v, cs[j]? = some v → W1.cell? (a.add j) = some v := fun j v hj => hgW.cell (hsrc j v hj) (by rw [Lib.block_add]; exact fun e => hab (Option.some.inj e))
  have hcp := run_copy_row (P := Tryd.prog) W1 25 25 3 5 N bs.length n (cap2 - bs.length) a n c cells 5 cs Tryd.underlying25 infoSize hg (by rw [hn]; exact (Nat.min_self n).symm) hsrc1 (by rw [hn]; omega) h1c
  rw [hn] at hcp
  have hcm' := hcm
  unfold maxLen at hcm'
  go_wp2
  go_ret2
  have hfin := BufAt.copied (cs := cs) hbk2 hg hcs htk rfl hl2 hcm hn hn1
  rw [hn, htk, List.append_assoc] at hfin
  exact ⟨rfl, .slice (some ⟨N, 0, none⟩) (bs.length + n) cap2, hfin, ⟨N, rfl, hN⟩, ((Fr.grown hgW).mono (fun k hk => Option.some.inj hk)).setRow (Or.inr hN) _⟩

set_option maxHeartbeats 6400000 in
set_option maxRecDepth 100000 in
theorem buf_Write_room (b g cap : Nat) (cur : Array Value) (bs cs : List Value) (a : Addr) (n c : Nat) (w : World) (lr : Int)
    (hbk : w.heap[b]? = some (.cells #[.slice (some ⟨g, 0, none⟩) bs.length cap, .int .i64 0, .int .i8 lr] 67 (0, 0))) (hg : w.heap[g]? = some (.cells cur 5 (0, 0))) (hcs : cur.size = cap) (htk : cur.toList.take bs.length = bs)
    (hlc : bs.length ≤ cap) (hcap : cap ≤ maxLen) (hroom : n ≤ cap - bs.length)
    (hn : cs.length = n) (hn1 : 1 ≤ n) (hab : a.block ≠ b) (hsrc : ∀ j x, cs[j]? = some x → w.cell? (a.add j) = some x) (h1c : ∀ x ∈ cs, x.oneCell' = true) :
    Calls Tryd.prog 82 #[.pointer (some ⟨b, 0, none⟩), .slice (some a) n c] w fun e w' => e = .returned (.tuple #[.int .i64 n, .nilIface]) ∧ BufAt b (.slice (some ⟨g, 0, none⟩) (bs.length + n) cap) (bs ++ cs) w' ∧ Fr (fun k => k = b ∨ k = g) w w' := by
  have c2 : w.cell? ⟨b, 2, none⟩ = some (.int .i8 lr) := by rw [Lib.cell_of_heap hbk]; rfl
  have f2 : w.frozen? ⟨b, 2, none⟩ = false := Lib.frozen_of_heap hbk 2
  have hgb : g ≠ b := tag_ne hg hbk (by decide)
  have hbk1 : (w.setCell ⟨b, 2, none⟩ (.int .i8 0)).heap[b]? = some (.cells #[.slice (some ⟨g, 0, none⟩) bs.length cap, .int .i64 0, .int .i8 0] 67 (0, 0)) := Lib.heap_setCell_same (i := 2) hbk _
  have d0 : (w.setCell ⟨b, 2, none⟩ (.int .i8 0)).cell? ⟨b, 0, none⟩ = some (.slice (some ⟨g, 0, none⟩) bs.length cap) := by rw [Lib.cell_of_heap hbk1]; rfl
  have f0 : (w.setCell ⟨b, 2, none⟩ (.int .i8 0)).frozen? ⟨b, 0, none⟩ = false := Lib.frozen_of_heap hbk1 0
  have hbk2 : ((w.setCell ⟨b, 2, none⟩ (.int .i8 0)).setCell ⟨b, 0, none⟩ (.slice (some ⟨g, 0, none⟩) (bs.length + n) cap)).heap[b]? = some (.cells #[.slice (some ⟨g, 0, none⟩) (bs.length + n) cap, .int .i64 0, .int .i8 0] 67 (0, 0)) := Lib.heap_setCell_same (i := 0) hbk1 _
  have hg2 : ((w.setCell ⟨b, 2, none⟩ (.int .i8 0)).setCell ⟨b, 0, none⟩ (.slice (some ⟨g, 0, none⟩) (bs.length + n) cap)).heap[g]? = some (.cells cur 5 (0, 0)) := by
    rw [Below.heap_setCell _ _ _ _ hgb, Below.heap_setCell _ _ _ _ hgb]; exact hg
  have hgW : w.grownBy ((w.setCell ⟨b, 2, none⟩ (.int .i8 0)).setCell ⟨b, 0, none⟩ (.slice (some ⟨g, 0, none⟩) (bs.length + n) cap)) (some b) := Lib.grownBy_setB (Lib.grownBy_setCell w b 2 _) 0 _
  have hT : Calls Tryd.prog 84 #[.pointer (some ⟨b, 0, none⟩), .int .i64 n] (w.setCell ⟨b, 2, none⟩ (.int .i8 0)) fun e W1 => e = .returned (.tuple #[.int .i64 bs.length, .bool true]) ∧ W1.heap[b]? = some (.cells #[.slice (some ⟨g, 0, none⟩) (bs.length + n) cap, .int .i64 0, .int .i8 0] 67 (0, 0)) ∧
      W1.heap[g]? = some (.cells cur 5 (0, 0)) ∧ w.grownBy W1 (some b) := by
    refine (Tryd.Buffer_tryGrow_room b _ bs.length cap n _ d0 f0 hlc hcap hroom).mono ?_
    rintro e W1 ⟨rfl, rfl⟩
    exact ⟨rfl, hbk2, hg2, hgW⟩
  clear hbk1 hbk d0 f0 hbk2 hg2 hgW
  go_enter Tryd.func82, Tryd.ntmps82
  go_wp2_with (go_at_call 84; refine hT.mono ?_; rintro e W1 ⟨rfl, hbk2, hg2, hgW⟩; refine Hid.out ?_)
  refine Lib.hid ?_
  clear c2 f2 hT
  have d0 : W1.cell? ⟨b, 0, none⟩ = some (.slice (some ⟨g, 0, none⟩) (bs.length + n) cap) := by rw [Lib.cell_of_heap hbk2]; rfl
  have hne : ¬ cap = bs.length := by omega
  have hsrc1 : ∀ j v, cs[j]? = some v → W1.cell? (a.add j) = some v := fun j v hj => hgW.cell (hsrc j v hj) (by rw [Lib.block_add]; exact fun e => hab (Option.some.inj e))
  have hcp := run_copy_row (P := Tryd.prog) W1 25 25 3 5 g bs.length n (cap - bs.length) a n c cur 5 cs Tryd.underlying25 infoSize hg2 (by rw [hn]; exact (Nat.min_self n).symm) hsrc1 (by rw [hn]; omega) h1c
  rw [hn] at hcp
  have hcm' := hcap
  unfold maxLen at hcm'
  go_wp2
  go_ret2
  have hfin := BufAt.copied (cs := cs) hbk2 hg2 hcs htk rfl (by omega) hcap hn hn1
  rw [hn, htk, List.append_assoc] at hfin
  exact ⟨rfl, hfin, ((Fr.grown hgW).mono (S' := fun k => k = b ∨ k = g) (fun k hk => Or.inl (Option.some.inj hk))).setRow (g := g) (Or.inl (Or.inr rfl)) _⟩

/-- (*bytes.Buffer).Write, p not empty, in another block than the Buffer's own. -/
theorem buf_Write (b : Nat) (v : Value) (bs cs : List Value) (a : Addr) (n c : Nat) (w : World) (h : BufAt b v bs w) (h1 : ∀ x ∈ bs, x.oneCell' = true)
    (hn : cs.length = n) (hn1 : 1 ≤ n) (hab : a.block ≠ b) (hsrc : ∀ j x, cs[j]? = some x → w.cell? (a.add j) = some x) (h1c : ∀ x ∈ cs, x.oneCell' = true) (hlim : bs.length + n ≤ 140737488355328) :
    Calls Tryd.prog 82 #[.pointer (some ⟨b, 0, none⟩), .slice (some a) n c] w fun e w' => e = .returned (.tuple #[.int .i64 n, .nilIface]) ∧ ∃ v', BufAt b v' (bs ++ cs) w' ∧ RowNew w v v' ∧ Fr (fun k => k = b ∨ some k = v.ownBlock) w w' := by
  obtain ⟨⟨lr, hbk⟩, hown, hemp⟩ := h
  have hbk1 : (w.setCell ⟨b, 2, none⟩ (.int .i8 0)).heap[b]? = some (.cells #[v, .int .i64 0, .int .i8 0] 67 (0, 0)) := Lib.heap_setCell_same (i := 2) hbk _
  have hsz1 : (w.setCell ⟨b, 2, none⟩ (.int .i8 0)).heap.size = w.heap.size := by simp [World.setCell]
  have hgr : (∀ ao l cap, v = .slice ao l cap → cap - l < n) → Calls Tryd.prog 85 #[.pointer (some ⟨b, 0, none⟩), .int .i64 n] (w.setCell ⟨b, 2, none⟩ (.int .i8 0)) fun e w' => e = .returned (.int .i64 bs.length) ∧ Grew b bs.length n 0 bs w w' := by
    intro hroom
    have hown1 : (w.setCell ⟨b, 2, none⟩ (.int .i8 0)).ownsRow 0 5 1 v bs.length bs := by
      refine ((Fr.refl (fun k => k = b) w).setCell (p := ⟨b, 2, none⟩) (Or.inl rfl) _).owns hown ?_
      rintro k hk rfl
      obtain ⟨cur, hc⟩ := own_tag hown hk
      exact tag_ne hc hbk (by decide) rfl
    refine (grow_any b n 0 v bs _ hbk1 hown1 hemp h1 hn1 hlim hroom).mono ?_
    rintro e w' ⟨rfl, N, cap2, cells, q1, q2, q3, q4, q5, q6, q7, q8⟩
    exact ⟨rfl, N, cap2, cells, by omega, q2, q3, q4, q5, q6, q7, Lib.grownBy_trans (Lib.grownBy_setCell w b 2 _) q8⟩
  rcases hown.2 with ⟨rfl, h0⟩ | ⟨g, cap, cur, rfl, -, hg, hnc, hcm, hcs, htk⟩
  · have hb0 : bs = [] := List.eq_nil_of_length_eq_zero h0
    subst hb0
    refine (buf_Write_no b none 0 0 [] cs a n c w lr hbk (Nat.le_refl _) (Nat.zero_le _) (by omega) (hgr (fun ao l cap e => by cases e; omega)) hn hn1 hab hsrc h1c).mono ?_
    rintro e w' ⟨rfl, v', q1, q2, q3⟩
    exact ⟨rfl, v', q1, Or.inr q2, q3.mono (fun k hk => Or.inl hk)⟩
  · by_cases hr : n ≤ cap - bs.length
    · refine (buf_Write_room b g cap cur bs cs a n c w lr hbk hg (by simpa using hcs) (by simpa using htk) hnc hcm hr hn hn1 hab hsrc h1c).mono ?_
      rintro e w' ⟨rfl, q1, q3⟩
      exact ⟨rfl, _, q1, Or.inl rfl, q3.mono (fun k hk => orMap hk (fun e => by rw [e]; rfl))⟩
    · refine (buf_Write_no b _ bs.length cap bs cs a n c w lr hbk hnc hcm (by omega) (hgr (fun ao l cap' e => by cases e; omega)) hn hn1 hab hsrc h1c).mono ?_
      rintro e w' ⟨rfl, v', q1, q2, q3⟩
      exact ⟨rfl, v', q1, Or.inr q2, q3.mono (fun k hk => Or.inl hk)⟩

set_option maxHeartbeats 6400000 in
set_option maxRecDepth 100000 in
theorem buf_WriteString_no (b : Nat) (ao : Option Addr) (l cap : Nat) (bs : List Value) (s : ByteArray) (w : World) (lr : Int)
    (hbk : w.heap[b]? = some (.cells #[.slice ao l cap, .int .i64 0, .int .i8 lr] 67 (0, 0))) (hlc : l ≤ cap) (hcap : cap ≤ maxLen) (hroom : cap - l < s.size)
    (hgr : Calls Tryd.prog 85 #[.pointer (some ⟨b, 0, none⟩), .int .i64 s.size] (w.setCell ⟨b, 2, none⟩ (.int .i8 0)) fun e w' => e = .returned (.int .i64 bs.length) ∧ Grew b bs.length s.size 0 bs w w')
    (hn1 : 1 ≤ s.size) :
    Calls Tryd.prog 83 #[.pointer (some ⟨b, 0, none⟩), .string s] w fun e w' => e = .returned (.tuple #[.int .i64 s.size, .nilIface]) ∧ ∃ v', BufAt b v' (bs ++ Lib.byteCells s.data.toList) w' ∧ (∃ k, v'.ownBlock = some k ∧ w.heap.size ≤ k) ∧ Fr (fun k => k = b) w w' := by
  have c2 : w.cell? ⟨b, 2, none⟩ = some (.int .i8 lr) := by rw [Lib.cell_of_heap hbk]; rfl
  have f2 : w.frozen? ⟨b, 2, none⟩ = false := Lib.frozen_of_heap hbk 2
  have hbk1 : (w.setCell ⟨b, 2, none⟩ (.int .i8 0)).heap[b]? = some (.cells #[.slice ao l cap, .int .i64 0, .int .i8 0] 67 (0, 0)) := Lib.heap_setCell_same (i := 2) hbk _
  have d0 : (w.setCell ⟨b, 2, none⟩ (.int .i8 0)).cell? ⟨b, 0, none⟩ = some (.slice ao l cap) := by rw [Lib.cell_of_heap hbk1]; rfl
  clear hbk1 hbk
  go_enter Tryd.func83, Tryd.ntmps83
  go_wp2_with (go_at_call 84; refine (Tryd.Buffer_tryGrow_none b ao l cap s.size _ d0 hlc hcap hroom).mono ?_; rintro e w' ⟨rfl, rfl⟩)
  go_at_call 85
  refine hgr.mono ?_
  rintro e W1 ⟨rfl, N, cap2, cells, hN, hbk2, hg, hcs, htk, hl2, hcm, hgW⟩
  clear hgr d0 c2 f2
  have d0 : W1.cell? ⟨b, 0, none⟩ = some (.slice (some ⟨N, 0, none⟩) (bs.length + s.size) cap2) := by rw [Lib.cell_of_heap hbk2]; rfl
  have hne : ¬ cap2 = bs.length := by omega
  have hcp := Lib.run_copy_row_string (P := Tryd.prog) W1 25 9 3 5 N bs.length s.size (cap2 - bs.length) s cells 5 Tryd.underlying25 infoSize hg (Nat.le_refl _) (by omega)
  have hcm' := hcm
  unfold maxLen at hcm'
  go_wp2
  go_ret2
  have hn : (Lib.byteCells s.data.toList).length = s.size := by rw [Lib.byteCells_length, ← Lib.size_eq]
  have hfin := BufAt.copied (cs := Lib.byteCells s.data.toList) hbk2 hg hcs htk rfl hl2 hcm hn hn1
  rw [hn, htk, List.append_assoc] at hfin
  exact ⟨rfl, .slice (some ⟨N, 0, none⟩) (bs.length + s.size) cap2, hfin, ⟨N, rfl, hN⟩, ((Fr.grown hgW).mono (fun k hk => Option.some.inj hk)).setRow (Or.inr hN) _⟩

set_option maxHeartbeats 6400000 in
set_option maxRecDepth 100000 in
theorem buf_WriteString_room (b g cap : Nat) (cur : Array Value) (bs : List Value) (s : ByteArray) (w : World) (lr : Int)
    (hbk : w.heap[b]? = some (.cells #[.slice (some ⟨g, 0, none⟩) bs.length cap, .int .i64 0, .int .i8 lr] 67 (0, 0))) (hg : w.heap[g]? = some (.cells cur 5 (0, 0))) (hcs : cur.size = cap) (htk : cur.toList.take bs.length = bs)
    (hlc : bs.length ≤ cap) (hcap : cap ≤ maxLen) (hroom : s.size ≤ cap - bs.length)
    (hn1 : 1 ≤ s.size) :
    Calls Tryd.prog 83 #[.pointer (some ⟨b, 0, none⟩), .string s] w fun e w' => e = .returned (.tuple #[.int .i64 s.size, .nilIface]) ∧ BufAt b (.slice (some ⟨g, 0, none⟩) (bs.length + s.size) cap) (bs ++ Lib.byteCells s.data.toList) w' ∧ Fr (fun k => k = b ∨ k = g) w w' := by
  have c2 : w.cell? ⟨b, 2, none⟩ = some (.int .i8 lr) := by rw [Lib.cell_of_heap hbk]; rfl
  have f2 : w.frozen? ⟨b, 2, none⟩ = false := Lib.frozen_of_heap hbk 2
  have hgb : g ≠ b := tag_ne hg hbk (by decide)
  have hbk1 : (w.setCell ⟨b, 2, none⟩ (.int .i8 0)).heap[b]? = some (.cells #[.slice (some ⟨g, 0, none⟩) bs.length cap, .int .i64 0, .int .i8 0] 67 (0, 0)) := Lib.heap_setCell_same (i := 2) hbk _
  have d0 : (w.setCell ⟨b, 2, none⟩ (.int .i8 0)).cell? ⟨b, 0, none⟩ = some (.slice (some ⟨g, 0, none⟩) bs.length cap) := by rw [Lib.cell_of_heap hbk1]; rfl
  have f0 : (w.setCell ⟨b, 2, none⟩ (.int .i8 0)).frozen? ⟨b, 0, none⟩ = false := Lib.frozen_of_heap hbk1 0
  have hbk2 : ((w.setCell ⟨b, 2, none⟩ (.int .i8 0)).setCell ⟨b, 0, none⟩ (.slice (some ⟨g, 0, none⟩) (bs.length + s.size) cap)).heap[b]? = some (.cells #[.slice (some ⟨g, 0, none⟩) (bs.length + s.size) cap, .int .i64 0, .int .i8 0] 67 (0, 0)) := Lib.heap_setCell_same (i := 0) hbk1 _
  have hg2 : ((w.setCell ⟨b, 2, none⟩ (.int .i8 0)).setCell ⟨b, 0, none⟩ (.slice (some ⟨g, 0, none⟩) (bs.length + s.size) cap)).heap[g]? = some (.cells cur 5 (0, 0)) := by
    rw [Below.heap_setCell _ _ _ _ hgb, Below.heap_setCell _ _ _ _ hgb]; exact hg
  have hgW : w.grownBy ((w.setCell ⟨b, 2, none⟩ (.int .i8 0)).setCell ⟨b, 0, none⟩ (.slice (some ⟨g, 0, none⟩) (bs.length + s.size) cap)) (some b) := Lib.grownBy_setB (Lib.grownBy_setCell w b 2 _) 0 _
  have hT : Calls Tryd.prog 84 #[.pointer (some ⟨b, 0, none⟩), .int .i64 s.size] (w.setCell ⟨b, 2, none⟩ (.int .i8 0)) fun e W1 => e = .returned (.tuple #[.int .i64 bs.length, .bool true]) ∧ W1.heap[b]? = some (.cells #[.slice (some ⟨g, 0, none⟩) (bs.length + s.size) cap, .int .i64 0, .int .i8 0] 67 (0, 0)) ∧
      W1.heap[g]? = some (.cells cur 5 (0, 0)) ∧ w.grownBy W1 (some b) := by
    refine (Tryd.Buffer_tryGrow_room b _ bs.length cap s.size _ d0 f0 hlc hcap hroom).mono ?_
    rintro e W1 ⟨rfl, rfl⟩
    exact ⟨rfl, hbk2, hg2, hgW⟩
  clear hbk1 hbk d0 f0 hbk2 hg2 hgW
  go_enter Tryd.func83, Tryd.ntmps83
  go_wp2_with (go_at_call 84; refine hT.mono ?_; rintro e W1 ⟨rfl, hbk2, hg2, hgW⟩; refine Hid.out ?_)
  refine Lib.hid ?_
  clear c2 f2 hT
  have d0 : W1.cell? ⟨b, 0, none⟩ = some (.slice (some ⟨g, 0, none⟩) (bs.length + s.size) cap) := by rw [Lib.cell_of_heap hbk2]; rfl
  have hne : ¬ cap = bs.length := by omega
  have hcp := Lib.run_copy_row_string (P := Tryd.prog) W1 25 9 3 5 g bs.length s.size (cap - bs.length) s cur 5 Tryd.underlying25 infoSize hg2 (Nat.le_refl _) (by omega)
  have hcm' := hcap
  unfold maxLen at hcm'
  go_wp2
  go_ret2
  have hn : (Lib.byteCells s.data.toList).length = s.size := by rw [Lib.byteCells_length, ← Lib.size_eq]
  have hfin := BufAt.copied (cs := Lib.byteCells s.data.toList) hbk2 hg2 hcs htk rfl (by omega) hcap hn hn1
  rw [hn, htk, List.append_assoc] at hfin
  exact ⟨rfl, hfin, ((Fr.grown hgW).mono (S' := fun k => k = b ∨ k = g) (fun k hk => Or.inl (Option.some.inj hk))).setRow (g := g) (Or.inl (Or.inr rfl)) _⟩

/-- (*bytes.Buffer).Write, p not empty, in another block than the Buffer's own. -/
theorem buf_WriteString (b : Nat) (v : Value) (bs : List Value) (s : ByteArray) (w : World) (h : BufAt b v bs w) (h1 : ∀ x ∈ bs, x.oneCell' = true)
    (hn1 : 1 ≤ s.size) (hlim : bs.length + s.size ≤ 140737488355328) :
    Calls Tryd.prog 83 #[.pointer (some ⟨b, 0, none⟩), .string s] w fun e w' => e = .returned (.tuple #[.int .i64 s.size, .nilIface]) ∧ ∃ v', BufAt b v' (bs ++ Lib.byteCells s.data.toList) w' ∧ RowNew w v v' ∧ Fr (fun k => k = b ∨ some k = v.ownBlock) w w' := by
  obtain ⟨⟨lr, hbk⟩, hown, hemp⟩ := h
  have hbk1 : (w.setCell ⟨b, 2, none⟩ (.int .i8 0)).heap[b]? = some (.cells #[v, .int .i64 0, .int .i8 0] 67 (0, 0)) := Lib.heap_setCell_same (i := 2) hbk _
  have hsz1 : (w.setCell ⟨b, 2, none⟩ (.int .i8 0)).heap.size = w.heap.size := by simp [World.setCell]
  have hgr : (∀ ao l cap, v = .slice ao l cap → cap - l < s.size) → Calls Tryd.prog 85 #[.pointer (some ⟨b, 0, none⟩), .int .i64 s.size] (w.setCell ⟨b, 2, none⟩ (.int .i8 0)) fun e w' => e = .returned (.int .i64 bs.length) ∧ Grew b bs.length s.size 0 bs w w' := by
    intro hroom
    have hown1 : (w.setCell ⟨b, 2, none⟩ (.int .i8 0)).ownsRow 0 5 1 v bs.length bs := by
      refine ((Fr.refl (fun k => k = b) w).setCell (p := ⟨b, 2, none⟩) (Or.inl rfl) _).owns hown ?_
      rintro k hk rfl
      obtain ⟨cur, hc⟩ := own_tag hown hk
      exact tag_ne hc hbk (by decide) rfl
    refine (grow_any b s.size 0 v bs _ hbk1 hown1 hemp h1 hn1 hlim hroom).mono ?_
    rintro e w' ⟨rfl, N, cap2, cells, q1, q2, q3, q4, q5, q6, q7, q8⟩
    exact ⟨rfl, N, cap2, cells, by omega, q2, q3, q4, q5, q6, q7, Lib.grownBy_trans (Lib.grownBy_setCell w b 2 _) q8⟩
  rcases hown.2 with ⟨rfl, h0⟩ | ⟨g, cap, cur, rfl, -, hg, hnc, hcm, hcs, htk⟩
  · have hb0 : bs = [] := List.eq_nil_of_length_eq_zero h0
    subst hb0
    refine (buf_WriteString_no b none 0 0 [] s w lr hbk (Nat.le_refl _) (Nat.zero_le _) (by omega) (hgr (fun ao l cap e => by cases e; omega)) hn1).mono ?_
    rintro e w' ⟨rfl, v', q1, q2, q3⟩
    exact ⟨rfl, v', q1, Or.inr q2, q3.mono (fun k hk => Or.inl hk)⟩
  · by_cases hr : s.size ≤ cap - bs.length
    · refine (buf_WriteString_room b g cap cur bs s w lr hbk hg (by simpa using hcs) (by simpa using htk) hnc hcm hr hn1).mono ?_
      rintro e w' ⟨rfl, q1, q3⟩
      exact ⟨rfl, _, q1, Or.inl rfl, q3.mono (fun k hk => orMap hk (fun e => by rw [e]; rfl))⟩
    · refine (buf_WriteString_no b _ bs.length cap bs s w lr hbk hnc hcm (by omega) (hgr (fun ao l cap' e => by cases e; omega)) hn1).mono ?_
      rintro e w' ⟨rfl, v', q1, q2, q3⟩
      exact ⟨rfl, v', q1, Or.inr q2, q3.mono (fun k hk => Or.inl hk)⟩
end Go.Proofs.Qxb6614442aDoor
