import Derived.Test.Qxb6614442aDoorRoute
namespace Go.Proofs.Qxb6614442aDoor
open Go.RowKit

theorem encAll_take_succ {α : Type} (f : α → List UInt8) (l : List α) (k : Nat) (x : α) (h : l[k]? = some x) : encAll f (l.take (k + 1)) = encAll f (l.take k) ++ f x := by
  unfold encAll
  rw [List.take_add_one, h, List.flatMap_append]
  simp

theorem encAll_take_le {α : Type} (f : α → List UInt8) (l : List α) (k : Nat) : (encAll f (l.take k)).length ≤ (encAll f l).length := by
  unfold encAll
  conv => rhs; rw [← List.take_append_drop k l]
  rw [List.flatMap_append, List.length_append]
  omega

theorem Go.cell {s : St} {w0 : World} {l : List UInt8} {wr : World} (h : Go s w0 l wr) {p : Addr} {v : Value} (hc : w0.cell? p = some v) (hn : ¬ s.S p.block) : wr.cell? p = some v := by
  obtain ⟨s', h1, h2, h3⟩ := h
  exact h3.cell hc hn

theorem Oth.cell {w w' : World} (h : Oth w w') {k : Nat} {c : Array Value} {t : TypeId} {fz : Nat × Nat} (hk : w.heap[k]? = some (.cells c t fz)) (h1 : t ≠ 5) (h2 : t ≠ 67) (h3 : t ≠ 101) (h4 : t ≠ 110) (j : Nat) : w'.cell? ⟨k, j, none⟩ = w.cell? ⟨k, j, none⟩ := by
  rw [Lib.cell_of_heap hk, Lib.cell_of_heap (h k c t fz hk h1 h2 h3 h4)]

structure Bm where
  d : Bd
  mg : Nat
  mc : Nat

def Bm.cells (m : Bm) : List Value := [.string m.d.group, .string m.d.cluster, .slice (some ⟨m.mg, 0, none⟩) m.d.mems.length m.mc]

theorem len_le {α : Type} (f : α → List UInt8) (l : List α) (x : α) (h : x ∈ l) : (f x).length ≤ (encAll f l).length := by
  obtain ⟨k, hk⟩ := List.getElem?_of_mem h
  have h1 := encAll_take_le f l (k + 1)
  rw [encAll_take_succ f l k x hk, List.length_append] at h1
  omega

set_option maxHeartbeats 4000000 in
set_option maxRecDepth 20000 in
theorem writeElems (s : St) (l : List UInt8) (rev : Int) (qs : List Qd) (bl : List Bm) (qg qc bg bc : Nat) (w : World) (h : s.Is l w) (hrev : i64 rev) (hql : qs.length ≤ 1048576) 
    (hq : HRows qg 86 4 (qs.map Qd.cells) w) (hqi : ∀ q ∈ qs, i64 q.read ∧ i64 q.write ∧ i64 q.perm)
    (hbl : bl.length ≤ 1048576) (hb : HRows bg 90 3 (bl.map Bm.cells) w) (hml : ∀ m ∈ bl, m.d.mems.length ≤ 1048576 ∧ (∀ x ∈ m.d.mems, i64 x.id) ∧ HRows m.mg 88 2 (m.d.mems.map Md.cells) w)
    (htot : (l ++ num 58 rev ++ num 42 qs.length ++ encAll Qd.enc qs ++ num 42 bl.length ++ encAll Bd.enc (bl.map Bm.d)).length + 1000 ≤ 1073741824) :
    Calls Tryd.prog 36 #[.agg #[.int .i64 rev, .slice (some ⟨qg, 0, none⟩) qs.length qc, .slice (some ⟨bg, 0, none⟩) bl.length bc], .pointer (some ⟨s.rw, 0, none⟩)] w fun e w' => e = .returned (.tuple #[]) ∧ Go s w (l ++ num 58 rev ++ num 42 qs.length ++ encAll Qd.enc qs ++ num 42 bl.length ++ encAll Bd.enc (bl.map Bm.d)) w' := by
  have htot0 := htot
  have hb0 := hb
  have Hml := Lib.hid hml
  clear hb hml
  simp only [List.length_append] at htot0
  have hG0 := (Go.start h).alloc (.cells #[.int .i64 rev, .slice (some ⟨qg, 0, none⟩) qs.length qc, .slice (some ⟨bg, 0, none⟩) bl.length bc] 92)
  have hN : (w.alloc (.cells #[.int .i64 rev, .slice (some ⟨qg, 0, none⟩) qs.length qc, .slice (some ⟨bg, 0, none⟩) bl.length bc] 92)).heap[w.heap.size]? = some (.cells #[.int .i64 rev, .slice (some ⟨qg, 0, none⟩) qs.length qc, .slice (some ⟨bg, 0, none⟩) bl.length bc] 92 (0, 0)) := heap_alloc_new _ _
  have hO0 : Oth w (w.alloc (.cells #[.int .i64 rev, .slice (some ⟨qg, 0, none⟩) qs.length qc, .slice (some ⟨bg, 0, none⟩) bl.length bc] 92)) := (Oth.refl w).alloc _
  have hqn : (qs.length : Int) ≤ 1048576 := by omega
  have hbn : (bl.length : Int) ≤ 1048576 := by omega
  have h1 := go_integer hG0 rev hrev (by omega)
  go_enter Tryd.func36, Tryd.ntmps36
  go_wp2_with (go_at_call 41; refine h1.mono ?_; rintro e w1 ⟨rfl, hG1, hO1⟩; refine Hid.out ?_)
  refine Lib.hid ?_
  have hB1 := hO1 _ _ _ _ hN (by decide) (by decide) (by decide) (by decide)
  have hOw1 := hO0.trans hO1
  have hq1 := (hq.oth hO0 (by decide) (by decide) (by decide) (by decide)).oth hO1 (by decide) (by decide) (by decide) (by decide)
  clear h1 hN hO0 hO1 hG0
  have c1 : w1.cell? ⟨w.heap.size, 1, none⟩ = some (.slice (some ⟨qg, 0, none⟩) qs.length qc) := by rw [Lib.cell_of_heap hB1]; rfl
  have h2 := go_array hG1 (qs.length : Int) ⟨by omega, by omega⟩ (by simp only [List.length_append]; omega)
  go_wp2_with (go_at_call 39; refine h2.mono ?_; rintro e w2 ⟨rfl, hG2, hO2⟩; refine Hid.out ?_)
  refine Lib.hid ?_
  have hB2 := hO2 _ _ _ _ hB1 (by decide) (by decide) (by decide) (by decide)
  have hOw2 := hOw1.trans hO2
  have hq2 := hq1.oth hO2 (by decide) (by decide) (by decide) (by decide)
  clear h2 hO2 c1 hB1 hq1 hG1 hOw1
  have c1 : w2.cell? ⟨w.heap.size, 1, none⟩ = some (.slice (some ⟨qg, 0, none⟩) qs.length qc) := by rw [Lib.cell_of_heap hB2]; rfl
  go_wp2
  go_loopg [25] qs.length (fun gk kv wr => ∃ k : Nat, gk + k = qs.length ∧ kv = .int .i64 (k : Int) ∧ Go s w (l ++ num 58 rev ++ num 42 qs.length ++ encAll Qd.enc (qs.take k)) wr ∧ Oth w wr ∧ HRows qg 86 4 (qs.map Qd.cells) wr ∧ wr.heap[w.heap.size]? = some (.cells #[.int .i64 rev, .slice (some ⟨qg, 0, none⟩) qs.length qc, .slice (some ⟨bg, 0, none⟩) bl.length bc] 92 (0, 0)))
  case atStart => exact ⟨0, by omega, rfl, by simpa [encAll] using hG2, hOw2, hq2, hB2⟩
  case round =>
    obtain ⟨k, hk, rfl, hG, hOw, hqr, hB⟩ := hrel
    have Hk : Hid (gk + k = qs.length) := hk
    clear hk hG2 hq2 hB2 c1 hq hOw2
    by_cases hlt : k < qs.length
    · have hqk : qs[k]? = some qs[k] := List.getElem?_eq_getElem hlt
      generalize qs[k] = q at hqk
      have hlti : (k : Int) < (qs.length : Int) := by omega
      have hk0 : (0 : Int) ≤ (k : Int) := by omega
      have hr : (qs.map Qd.cells)[k]? = some q.cells := by rw [List.getElem?_map, hqk]; rfl
      have k0 := hqr.cell hr (j := 0) rfl
      have k1 := hqr.cell hr (j := 1) rfl
      have k2 := hqr.cell hr (j := 2) rfl
      have k3 := hqr.cell hr (j := 3) rfl
      simp only [Nat.add_zero] at k0
      obtain ⟨hi1, hi2, hi3⟩ := hqi q (List.mem_of_getElem? hqk)
      have hle := encAll_take_le Qd.enc qs (k + 1)
      rw [encAll_take_succ Qd.enc qs k q hqk] at hle
      have hle2 : (l ++ num 58 rev ++ num 42 qs.length ++ encAll Qd.enc (qs.take k)).length + q.enc.length + 1000 ≤ 1073741824 := by
        simp only [List.length_append] at hle ⊢; omega
      generalize hL : l ++ num 58 rev ++ num 42 qs.length ++ encAll Qd.enc (qs.take k) = L at hG hle2
      have HL : Hid (l ++ num 58 rev ++ num 42 qs.length ++ encAll Qd.enc (qs.take k) = L) := hL
      have hqe : q.enc.length = (num 42 4).length + (bulk q.group.data.toList).length + (num 58 q.read).length + (num 58 q.write).length + (num 58 q.perm).length := by simp only [Qd.enc, List.length_append]
      have hbl : q.group.size ≤ (bulk q.group.data.toList).length := by unfold bulk; rw [List.length_append, List.length_append, ← Lib.size_eq]; omega
      have Hqk : Hid (qs[k]? = some q) := hqk
      clear hL hle hqk hr
      have hG0 := hG.alloc (.cells #[.string q.group, .int .i64 q.read, .int .i64 q.write, .int .i64 q.perm] 86)
      have hN : (wr.alloc (.cells #[.string q.group, .int .i64 q.read, .int .i64 q.write, .int .i64 q.perm] 86)).heap[wr.heap.size]? = some (.cells #[.string q.group, .int .i64 q.read, .int .i64 q.write, .int .i64 q.perm] 86 (0, 0)) := heap_alloc_new _ _
      have hO0 : Oth wr (wr.alloc (.cells #[.string q.group, .int .i64 q.read, .int .i64 q.write, .int .i64 q.perm] 86)) := (Oth.refl wr).alloc _
      have h1 := go_array hG0 4 ⟨by omega, by omega⟩ (by omega)
      go_wp2_with (go_at_call 39; refine h1.mono ?_; rintro e w1 ⟨rfl, hG1, hO1⟩; refine Hid.out ?_)
      refine Lib.hid ?_
      have hN1 := hO1 _ _ _ _ hN (by decide) (by decide) (by decide) (by decide)
      have hOO1 := hO0.trans hO1
      clear h1 hN hO1 hG0 hG k0 k1 k2 k3 hO0
      have c0 : w1.cell? ⟨wr.heap.size, 0, none⟩ = some (.string q.group) := by rw [Lib.cell_of_heap hN1]; rfl
      have h1 := go_bulk hG1 q.group (by rw [List.length_append]; omega)
      go_wp2_with (go_at_call 42; refine h1.mono ?_; rintro e w2 ⟨rfl, hG2, hO2⟩; refine Hid.out ?_)
      refine Lib.hid ?_
      have hN2 := hO2 _ _ _ _ hN1 (by decide) (by decide) (by decide) (by decide)
      have hOO2 := hOO1.trans hO2
      clear h1 hN1 hO2 hG1 c0 hOO1
      have c0 : w2.cell? ⟨wr.heap.size, 1, none⟩ = some (.int .i64 q.read) := by rw [Lib.cell_of_heap hN2]; rfl
      have h1 := go_integer hG2 q.read hi1 (by rw [List.length_append, List.length_append]; omega)
      go_wp2_with (go_at_call 41; refine h1.mono ?_; rintro e w3 ⟨rfl, hG3, hO3⟩; refine Hid.out ?_)
      refine Lib.hid ?_
      have hN3 := hO3 _ _ _ _ hN2 (by decide) (by decide) (by decide) (by decide)
      have hOO3 := hOO2.trans hO3
      clear h1 hN2 hO3 hG2 c0 hOO2
      have c0 : w3.cell? ⟨wr.heap.size, 2, none⟩ = some (.int .i64 q.write) := by rw [Lib.cell_of_heap hN3]; rfl
      have h1 := go_integer hG3 q.write hi2 (by rw [List.length_append, List.length_append, List.length_append]; omega)
      go_wp2_with (go_at_call 41; refine h1.mono ?_; rintro e w4 ⟨rfl, hG4, hO4⟩; refine Hid.out ?_)
      refine Lib.hid ?_
      have hN4 := hO4 _ _ _ _ hN3 (by decide) (by decide) (by decide) (by decide)
      have hOO4 := hOO3.trans hO4
      clear h1 hN3 hO4 hG3 c0 hOO3
      have c0 : w4.cell? ⟨wr.heap.size, 3, none⟩ = some (.int .i64 q.perm) := by rw [Lib.cell_of_heap hN4]; rfl
      have h1 := go_integer hG4 q.perm hi3 (by rw [List.length_append, List.length_append, List.length_append, List.length_append]; omega)
      go_wp2_with (go_at_call 41; refine h1.mono ?_; rintro e w5 ⟨rfl, hG5, hO5⟩; refine Hid.out ?_)
      refine Lib.hid ?_
      have hOO5 := hOO4.trans hO5
      clear h1 hN4 hO5 hG4 c0 hOO4
      go_wp2
      go_roundg (gk - 1)
      case measure => have := Hk.out; omega
      case rel =>
        refine ⟨k + 1, by have := Hk.out; omega, by go_num, ?_, hOw.trans hOO5, hqr.oth hOO5 (by decide) (by decide) (by decide) (by decide), hOO5 _ _ _ _ hB (by decide) (by decide) (by decide) (by decide)⟩
        rw [encAll_take_succ Qd.enc qs k q Hqk.out, ← List.append_assoc, HL.out]
        simpa [Qd.enc, List.append_assoc] using hG5
    · have hkq : k = qs.length := by have := Hk.out; omega
      rw [List.take_of_length_le (by omega)] at hG
      have Hkq := Lib.hid hkq
      have c2 : wr.cell? ⟨w.heap.size, 2, none⟩ = some (.slice (some ⟨bg, 0, none⟩) bl.length bc) := by rw [Lib.cell_of_heap hB]; rfl
      have hle : (qs.length : Int) ≤ (k : Int) := by omega
      have h1 := go_array hG (bl.length : Int) ⟨by omega, by omega⟩ (by simp only [List.length_append]; omega)
      clear hkq hqr
      go_wp2_with (go_at_call 39; refine h1.mono ?_; rintro e w3 ⟨rfl, hG3, hO3⟩; refine Hid.out ?_)
      refine Lib.hid ?_
      have hB3 := hO3 _ _ _ _ hB (by decide) (by decide) (by decide) (by decide)
      have hOw3 := hOw.trans hO3
      clear h1 hO3 c2 hB hG hOw
      have c2 : w3.cell? ⟨w.heap.size, 2, none⟩ = some (.slice (some ⟨bg, 0, none⟩) bl.length bc) := by rw [Lib.cell_of_heap hB3]; rfl
      clear hB3
      go_wp2
      generalize hP : l ++ num 58 rev ++ num 42 qs.length ++ encAll Qd.enc qs ++ num 42 bl.length = P at hG3 htot
      have HP := Lib.hid hP
      clear hP c2
      go_loopg [61] bl.length (fun gk kv wr => ∃ k : Nat, gk + k = bl.length ∧ kv = .int .i64 (k : Int) ∧ Go s w (P ++ encAll Bd.enc ((bl.map Bm.d).take k)) wr ∧ Oth w wr)
      case atStart => exact ⟨0, by omega, rfl, by simpa [encAll] using hG3, hOw3⟩
      case round =>
        obtain ⟨k, hk, rfl, hG, hOw⟩ := hrel
        have Hk2 : Hid (gk + k = bl.length) := hk
        clear hk hG3 hOw3
        have hbr := hb0.oth hOw (by decide) (by decide) (by decide) (by decide)
        by_cases hlt2 : k < bl.length
        · have hmk : bl[k]? = some bl[k] := List.getElem?_eq_getElem hlt2
          generalize bl[k] = m at hmk
          obtain ⟨hm1, hm2, hm3⟩ := Hml.out m (List.mem_of_getElem? hmk)
          have hdk : (bl.map Bm.d)[k]? = some m.d := by rw [List.getElem?_map, hmk]; rfl
          have hr : (bl.map Bm.cells)[k]? = some m.cells := by rw [List.getElem?_map, hmk]; rfl
          have k0 := hbr.cell hr (j := 0) rfl
          have k1 := hbr.cell hr (j := 1) rfl
          have k2 := hbr.cell hr (j := 2) rfl
          simp only [Nat.add_zero] at k0
          have hlti : (k : Int) < (bl.length : Int) := by omega
          have hk0 : (0 : Int) ≤ (k : Int) := by omega
          have hle := encAll_take_le Bd.enc (bl.map Bm.d) (k + 1)
          rw [encAll_take_succ Bd.enc (bl.map Bm.d) k m.d hdk] at hle
          have hle2 : (P ++ encAll Bd.enc ((bl.map Bm.d).take k)).length + m.d.enc.length + 1000 ≤ 1073741824 := by
            simp only [List.length_append] at hle htot ⊢; omega
          generalize hL : P ++ encAll Bd.enc ((bl.map Bm.d).take k) = L at hG hle2
          have HL : Hid (P ++ encAll Bd.enc ((bl.map Bm.d).take k) = L) := hL
          have hqe : m.d.enc.length = (num 42 3).length + (bulk m.d.group.data.toList).length + (bulk m.d.cluster.data.toList).length + (num 42 m.d.mems.length).length + (encAll Md.enc m.d.mems).length := by simp only [Bd.enc, List.length_append]
          have hbl1 : m.d.group.size ≤ (bulk m.d.group.data.toList).length := by unfold bulk; rw [List.length_append, List.length_append, ← Lib.size_eq]; omega
          have hbl2 : m.d.cluster.size ≤ (bulk m.d.cluster.data.toList).length := by unfold bulk; rw [List.length_append, List.length_append, ← Lib.size_eq]; omega
          have Hdk : Hid ((bl.map Bm.d)[k]? = some m.d) := hdk
          have hmn : (m.d.mems.length : Int) ≤ 1048576 := by omega
          have hm30 := hm3.oth hOw (by decide) (by decide) (by decide) (by decide)
          clear hL hle hmk hr hdk hm3 htot
          have hG0 := hG.alloc (.cells #[.string m.d.group, .string m.d.cluster, .slice (some ⟨m.mg, 0, none⟩) m.d.mems.length m.mc] 90)
          have hN : (wr.alloc (.cells #[.string m.d.group, .string m.d.cluster, .slice (some ⟨m.mg, 0, none⟩) m.d.mems.length m.mc] 90)).heap[wr.heap.size]? = some (.cells #[.string m.d.group, .string m.d.cluster, .slice (some ⟨m.mg, 0, none⟩) m.d.mems.length m.mc] 90 (0, 0)) := heap_alloc_new _ _
          have hO0 : Oth wr (wr.alloc (.cells #[.string m.d.group, .string m.d.cluster, .slice (some ⟨m.mg, 0, none⟩) m.d.mems.length m.mc] 90)) := (Oth.refl wr).alloc _
          have h1 := go_array hG0 3 ⟨by omega, by omega⟩ (by omega)
          go_wp2_with (go_at_call 39; refine h1.mono ?_; rintro e w1 ⟨rfl, hG1, hO1⟩; refine Hid.out ?_)
          refine Lib.hid ?_
          have hN1 := hO1 _ _ _ _ hN (by decide) (by decide) (by decide) (by decide)
          have hOO1 := hO0.trans hO1
          clear h1 hN hO1 hG0 hG k0 k1 k2 hO0
          have c0 : w1.cell? ⟨wr.heap.size, 0, none⟩ = some (.string m.d.group) := by rw [Lib.cell_of_heap hN1]; rfl
          have h1 := go_bulk hG1 m.d.group (by rw [List.length_append]; omega)
          go_wp2_with (go_at_call 42; refine h1.mono ?_; rintro e w2 ⟨rfl, hG2, hO2⟩; refine Hid.out ?_)
          refine Lib.hid ?_
          have hN2 := hO2 _ _ _ _ hN1 (by decide) (by decide) (by decide) (by decide)
          have hOO2 := hOO1.trans hO2
          clear h1 hN1 hO2 hG1 c0 hOO1
          have c0 : w2.cell? ⟨wr.heap.size, 1, none⟩ = some (.string m.d.cluster) := by rw [Lib.cell_of_heap hN2]; rfl
          have h1 := go_bulk hG2 m.d.cluster (by rw [List.length_append, List.length_append]; omega)
          go_wp2_with (go_at_call 42; refine h1.mono ?_; rintro e w3 ⟨rfl, hG3, hO3⟩; refine Hid.out ?_)
          refine Lib.hid ?_
          have hN3 := hO3 _ _ _ _ hN2 (by decide) (by decide) (by decide) (by decide)
          have hOO3 := hOO2.trans hO3
          clear h1 hN2 hO3 hG2 c0 hOO2
          have c0 : w3.cell? ⟨wr.heap.size, 2, none⟩ = some (.slice (some ⟨m.mg, 0, none⟩) m.d.mems.length m.mc) := by rw [Lib.cell_of_heap hN3]; rfl
          have h1 := go_array hG3 (m.d.mems.length : Int) ⟨by omega, by omega⟩ (by rw [List.length_append, List.length_append, List.length_append]; omega)
          go_wp2_with (go_at_call 39; refine h1.mono ?_; rintro e w4 ⟨rfl, hG4, hO4⟩; refine Hid.out ?_)
          refine Lib.hid ?_
          have hN4 := hO4 _ _ _ _ hN3 (by decide) (by decide) (by decide) (by decide)
          have hOO4 := hOO3.trans hO4
          clear h1 hN3 hO4 hG3 c0 hOO3
          have c0 : w4.cell? ⟨wr.heap.size, 2, none⟩ = some (.slice (some ⟨m.mg, 0, none⟩) m.d.mems.length m.mc) := by rw [Lib.cell_of_heap hN4]; rfl
          have hm4 := hm30.oth hOO4 (by decide) (by decide) (by decide) (by decide)
          have hOw4 := hOw.trans hOO4
          clear hN4 hOO4 hm30 hOw hbr
          go_wp2
          generalize hP2 : L ++ num 42 3 ++ bulk m.d.group.data.toList ++ bulk m.d.cluster.data.toList ++ num 42 m.d.mems.length = P2 at hG4
          have hP2l : P2.length + (encAll Md.enc m.d.mems).length + 1000 ≤ 1073741824 := by rw [← hP2]; simp only [List.length_append]; omega
          have HP2 := Lib.hid hP2
          clear hP2 c0
          obtain ⟨wo, rfl⟩ : ∃ wo : World, wo = wr := ⟨_, rfl⟩
          obtain ⟨ko, rfl⟩ : ∃ ko : Nat, ko = k := ⟨_, rfl⟩
          obtain ⟨go, rfl⟩ : ∃ go : Nat, go = gk := ⟨_, rfl⟩
          go_loopg [83] m.d.mems.length (fun gk kv wr => ∃ k : Nat, gk + k = m.d.mems.length ∧ kv = .int .i64 (k : Int) ∧ Go s w (P2 ++ encAll Md.enc (m.d.mems.take k)) wr ∧ Oth w wr ∧ HRows m.mg 88 2 (m.d.mems.map Md.cells) wr)
          case atStart => exact ⟨0, by omega, rfl, by simpa [encAll] using hG4, hOw4, hm4⟩
          case round =>
            obtain ⟨k, hk, rfl, hG, hOw, hmr⟩ := hrel
            have Hk3 : Hid (gk + k = m.d.mems.length) := hk
            clear hk hG4 hOw4 hm4
            by_cases hlt3 : k < m.d.mems.length
            · have hmk : m.d.mems[k]? = some m.d.mems[k] := List.getElem?_eq_getElem hlt3
              generalize m.d.mems[k] = x at hmk
              have hxi := hm2 x (List.mem_of_getElem? hmk)
              have hr : (m.d.mems.map Md.cells)[k]? = some x.cells := by rw [List.getElem?_map, hmk]; rfl
              have k0 := hmr.cell hr (j := 0) rfl
              have k1 := hmr.cell hr (j := 1) rfl
              simp only [Nat.add_zero] at k0
              have hlti : (k : Int) < (m.d.mems.length : Int) := by omega
              have hk0 : (0 : Int) ≤ (k : Int) := by omega
              have hle := encAll_take_le Md.enc m.d.mems (k + 1)
              rw [encAll_take_succ Md.enc m.d.mems k x hmk] at hle
              have hle2 : (P2 ++ encAll Md.enc (m.d.mems.take k)).length + x.enc.length + 1000 ≤ 1073741824 := by
                simp only [List.length_append] at hle ⊢; omega
              generalize hL3 : P2 ++ encAll Md.enc (m.d.mems.take k) = L3 at hG hle2
              have HL3 : Hid (P2 ++ encAll Md.enc (m.d.mems.take k) = L3) := hL3
              have hqe : x.enc.length = (num 42 2).length + (num 58 x.id).length + (bulk x.addr.data.toList).length := by simp only [Md.enc, List.length_append]
              have hbl1 : x.addr.size ≤ (bulk x.addr.data.toList).length := by unfold bulk; rw [List.length_append, List.length_append, ← Lib.size_eq]; omega
              have Hmk : Hid (m.d.mems[k]? = some x) := hmk
              clear hL3 hle hmk hr
              have hG0 := hG.alloc (.cells #[.int .i64 x.id, .string x.addr] 88)
              have hN : (wr.alloc (.cells #[.int .i64 x.id, .string x.addr] 88)).heap[wr.heap.size]? = some (.cells #[.int .i64 x.id, .string x.addr] 88 (0, 0)) := heap_alloc_new _ _
              have hO0 : Oth wr (wr.alloc (.cells #[.int .i64 x.id, .string x.addr] 88)) := (Oth.refl wr).alloc _
              have h1 := go_array hG0 2 ⟨by omega, by omega⟩ (by omega)
              go_wp2_with (go_at_call 39; refine h1.mono ?_; rintro e w1 ⟨rfl, hG1, hO1⟩; refine Hid.out ?_)
              refine Lib.hid ?_
              have hN1 := hO1 _ _ _ _ hN (by decide) (by decide) (by decide) (by decide)
              have hOO1 := hO0.trans hO1
              clear h1 hN hO1 hG0 hG k0 k1 hO0
              have c0 : w1.cell? ⟨wr.heap.size, 0, none⟩ = some (.int .i64 x.id) := by rw [Lib.cell_of_heap hN1]; rfl
              have h1 := go_integer hG1 x.id hxi (by rw [List.length_append]; omega)
              go_wp2_with (go_at_call 41; refine h1.mono ?_; rintro e w2 ⟨rfl, hG2, hO2⟩; refine Hid.out ?_)
              refine Lib.hid ?_
              have hN2 := hO2 _ _ _ _ hN1 (by decide) (by decide) (by decide) (by decide)
              have hOO2 := hOO1.trans hO2
              clear h1 hN1 hO2 hG1 c0 hOO1
              have c0 : w2.cell? ⟨wr.heap.size, 1, none⟩ = some (.string x.addr) := by rw [Lib.cell_of_heap hN2]; rfl
              have h1 := go_bulk hG2 x.addr (by rw [List.length_append, List.length_append]; omega)
              go_wp2_with (go_at_call 42; refine h1.mono ?_; rintro e w3 ⟨rfl, hG3, hO3⟩; refine Hid.out ?_)
              refine Lib.hid ?_
              have hOO3 := hOO2.trans hO3
              clear h1 hN2 hO3 hG2 c0 hOO2
              go_wp2
              go_roundg (gk - 1)
              case measure => have := Hk3.out; omega
              case rel =>
                refine ⟨k + 1, by have := Hk3.out; omega, by go_num, ?_, hOw.trans hOO3, hmr.oth hOO3 (by decide) (by decide) (by decide) (by decide)⟩
                rw [encAll_take_succ Md.enc m.d.mems k x Hmk.out, ← List.append_assoc, HL3.out]
                simpa [Md.enc, List.append_assoc] using hG3
            · have hkb : k = m.d.mems.length := by have := Hk3.out; omega
              rw [List.take_of_length_le (by omega)] at hG
              have hle3 : (m.d.mems.length : Int) ≤ (k : Int) := by omega
              clear hkb
              go_wp2
              go_roundg (go - 1)
              case measure => have := Hk2.out; omega
              case rel =>
                refine ⟨ko + 1, by have := Hk2.out; omega, by go_num, ?_, hOw⟩
                rw [encAll_take_succ Bd.enc (bl.map Bm.d) ko m.d Hdk.out, ← List.append_assoc, HL.out]
                rw [← HP2.out] at hG
                simpa [Bd.enc, List.append_assoc] using hG
        · have hkb : k = bl.length := by have := Hk2.out; omega
          rw [List.take_of_length_le (by rw [List.length_map]; omega)] at hG
          have hle2 : (bl.length : Int) ≤ (k : Int) := by omega
          have Hkb := Lib.hid hkb
          clear hkb
          go_wp2
          go_end0
          exact ⟨rfl, by rw [HP.out]; exact hG⟩
end Go.Proofs.Qxb6614442aDoor
