import Derived.Test.Qxb6614442aDoorTb
import Derived.Test.Qxb6614442aDoorLaw6
namespace Go.Proofs.Qxb6614442aDoor
open Go.RowKit

structure Nd where
  name : ByteArray
  addr : ByteArray
  weight : Int
  note : ByteArray

def Nd.cells (x : Nd) : List Value := [.string x.name, .string x.addr, .int .i64 x.weight, .string x.note]
def Nd.enc (x : Nd) : List UInt8 := num 42 4 ++ bulk x.name.data.toList ++ bulk x.addr.data.toList ++ num 58 x.weight ++ bulk x.note.data.toList
def Nd.cost (x : Nd) : Nat := x.name.size + x.addr.size + x.note.size
def listCost (ns : List Nd) : Nat := ns.length + sumBy Nd.cost ns
def encList (rev : Int) (ns : List Nd) : List UInt8 := num 58 rev ++ num 42 ns.length ++ encAll Nd.enc ns

theorem encNd_len (ns : List Nd) (hi : ∀ x ∈ ns, i64 x.weight) (hc : listCost ns ≤ 1048576) : (encAll Nd.enc ns).length ≤ 132120576 := by
  have h1 : (encAll Nd.enc ns).length ≤ 126 * (ns.length + sumBy Nd.cost ns) := by
    refine encAll_len _ _ _ _ (fun x hx => ?_)
    have i1 := hi x hx
    have m := mem_sumBy Nd.cost ns x hx
    have hx : Nd.cost x = x.name.size + x.addr.size + x.note.size := rfl
    unfold listCost at hc
    have n1 := num_length 42 4 (by omega) (by omega)
    have n2 := num_length 58 x.weight i1.1 i1.2
    have b1 := bulk_length x.name (by omega)
    have b2 := bulk_length x.addr (by omega)
    have b3 := bulk_length x.note (by omega)
    unfold Nd.enc
    simp only [List.length_append]
    omega
  unfold listCost at hc
  omega

theorem encList_len (rev : Int) (ns : List Nd) (hrev : i64 rev) (hi : ∀ x ∈ ns, i64 x.weight) (hc : listCost ns ≤ 1048576) : (encList rev ns).length ≤ 132120624 := by
  have h1 := encNd_len ns hi hc
  have n1 := num_length 58 rev hrev.1 hrev.2
  have hl : ns.length ≤ 1048576 := by unfold listCost at hc; omega
  have n2 := num_length 42 (ns.length : Int) (by omega) (by omega)
  unfold encList
  simp only [List.length_append]
  omega

set_option maxHeartbeats 4000000 in
set_option maxRecDepth 20000 in
theorem writeList (s : St) (l : List UInt8) (rev : Int) (ns : List Nd) (qg qc : Nat) (w : World) (h : s.Is l w) (hrev : i64 rev) (hql : ns.length ≤ 1048576)
    (hq : HRows qg 78 4 (ns.map Nd.cells) w) (hqi : ∀ x ∈ ns, i64 x.weight)
    (htot : (l ++ num 58 rev ++ num 42 ns.length ++ encAll Nd.enc ns).length + 1000 ≤ 1073741824) :
    Calls Tryd.prog 35 #[.pointer (some ⟨s.rw, 0, none⟩), .agg #[.int .i64 rev, .slice (some ⟨qg, 0, none⟩) ns.length qc]] w fun e w' => e = .returned (.tuple #[]) ∧ Go s w (l ++ num 58 rev ++ num 42 ns.length ++ encAll Nd.enc ns) w' := by
  have htot0 := htot
  simp only [List.length_append] at htot0
  have hG0 := (Go.start h).alloc (.cells #[.int .i64 rev, .slice (some ⟨qg, 0, none⟩) ns.length qc] 29)
  have hN : (w.alloc (.cells #[.int .i64 rev, .slice (some ⟨qg, 0, none⟩) ns.length qc] 29)).heap[w.heap.size]? = some (.cells #[.int .i64 rev, .slice (some ⟨qg, 0, none⟩) ns.length qc] 29 (0, 0)) := heap_alloc_new _ _
  have hO0 : Oth w (w.alloc (.cells #[.int .i64 rev, .slice (some ⟨qg, 0, none⟩) ns.length qc] 29)) := (Oth.refl w).alloc _
  have hqn : (ns.length : Int) ≤ 1048576 := by omega
  have h1 := go_integer hG0 rev hrev (by omega)
  go_enter Tryd.func35, Tryd.ntmps35
  go_wp2_with (go_at_call 41; refine h1.mono ?_; rintro e w1 ⟨rfl, hG1, hO1⟩; refine Hid.out ?_)
  refine Lib.hid ?_
  have hB1 := hO1 _ _ _ _ hN (by decide) (by decide) (by decide) (by decide)
  have hOw1 := hO0.trans hO1
  have hq1 := (hq.oth hO0 (by decide) (by decide) (by decide) (by decide)).oth hO1 (by decide) (by decide) (by decide) (by decide)
  clear h1 hN hO0 hO1 hG0
  have c1 : w1.cell? ⟨w.heap.size, 1, none⟩ = some (.slice (some ⟨qg, 0, none⟩) ns.length qc) := by rw [Lib.cell_of_heap hB1]; rfl
  have h2 := go_array hG1 (ns.length : Int) ⟨by omega, by omega⟩ (by simp only [List.length_append]; omega)
  go_wp2_with (go_at_call 39; refine h2.mono ?_; rintro e w2 ⟨rfl, hG2, hO2⟩; refine Hid.out ?_)
  refine Lib.hid ?_
  have hB2 := hO2 _ _ _ _ hB1 (by decide) (by decide) (by decide) (by decide)
  have hOw2 := hOw1.trans hO2
  have hq2 := hq1.oth hO2 (by decide) (by decide) (by decide) (by decide)
  clear h2 hO2 c1 hB1 hq1 hG1 hOw1
  have c1 : w2.cell? ⟨w.heap.size, 1, none⟩ = some (.slice (some ⟨qg, 0, none⟩) ns.length qc) := by rw [Lib.cell_of_heap hB2]; rfl
  go_wp2
  go_loopg [18] ns.length (fun gk kv wr => ∃ k : Nat, gk + k = ns.length ∧ kv = .int .i64 (k : Int) ∧ Go s w (l ++ num 58 rev ++ num 42 ns.length ++ encAll Nd.enc (ns.take k)) wr ∧ HRows qg 78 4 (ns.map Nd.cells) wr)
  case atStart => exact ⟨0, by omega, rfl, by simpa [encAll] using hG2, hq2⟩
  case round =>
    obtain ⟨k, hk, rfl, hG, hqr⟩ := hrel
    have Hk : Hid (gk + k = ns.length) := hk
    clear hk hG2 hq2 hB2 c1 hq hOw2
    by_cases hlt : k < ns.length
    · have hqk : ns[k]? = some ns[k] := List.getElem?_eq_getElem hlt
      generalize ns[k] = q at hqk
      have hlti : (k : Int) < (ns.length : Int) := by omega
      have hk0 : (0 : Int) ≤ (k : Int) := by omega
      have hr : (ns.map Nd.cells)[k]? = some q.cells := by rw [List.getElem?_map, hqk]; rfl
      have k0 := hqr.cell hr (j := 0) rfl
      have k1 := hqr.cell hr (j := 1) rfl
      have k2 := hqr.cell hr (j := 2) rfl
      have k3 := hqr.cell hr (j := 3) rfl
      simp only [Nat.add_zero] at k0
      have hi1 := hqi q (List.mem_of_getElem? hqk)
      have hle := encAll_take_le Nd.enc ns (k + 1)
      rw [encAll_take_succ Nd.enc ns k q hqk] at hle
      have hle2 : (l ++ num 58 rev ++ num 42 ns.length ++ encAll Nd.enc (ns.take k)).length + q.enc.length + 1000 ≤ 1073741824 := by
        simp only [List.length_append] at hle ⊢; omega
      generalize hL : l ++ num 58 rev ++ num 42 ns.length ++ encAll Nd.enc (ns.take k) = L at hG hle2
      have HL : Hid (l ++ num 58 rev ++ num 42 ns.length ++ encAll Nd.enc (ns.take k) = L) := hL
      have hqe : q.enc.length = (num 42 4).length + (bulk q.name.data.toList).length + (bulk q.addr.data.toList).length + (num 58 q.weight).length + (bulk q.note.data.toList).length := by simp only [Nd.enc, List.length_append]
      have hb1 : q.name.size ≤ (bulk q.name.data.toList).length := by unfold bulk; rw [List.length_append, List.length_append, ← Lib.size_eq]; omega
      have hb2 : q.addr.size ≤ (bulk q.addr.data.toList).length := by unfold bulk; rw [List.length_append, List.length_append, ← Lib.size_eq]; omega
      have hb3 : q.note.size ≤ (bulk q.note.data.toList).length := by unfold bulk; rw [List.length_append, List.length_append, ← Lib.size_eq]; omega
      have Hqk : Hid (ns[k]? = some q) := hqk
      clear hL hle hqk hr
      have hG0 := hG.alloc (.cells #[.string q.name, .string q.addr, .int .i64 q.weight, .string q.note] 78)
      have hN : (wr.alloc (.cells #[.string q.name, .string q.addr, .int .i64 q.weight, .string q.note] 78)).heap[wr.heap.size]? = some (.cells #[.string q.name, .string q.addr, .int .i64 q.weight, .string q.note] 78 (0, 0)) := heap_alloc_new _ _
      have hO0 : Oth wr (wr.alloc (.cells #[.string q.name, .string q.addr, .int .i64 q.weight, .string q.note] 78)) := (Oth.refl wr).alloc _
      have h1 := go_array hG0 4 ⟨by omega, by omega⟩ (by omega)
      go_wp2_with (go_at_call 39; refine h1.mono ?_; rintro e w1 ⟨rfl, hG1, hO1⟩; refine Hid.out ?_)
      refine Lib.hid ?_
      have hN1 := hO1 _ _ _ _ hN (by decide) (by decide) (by decide) (by decide)
      have hOO1 := hO0.trans hO1
      clear h1 hN hO1 hG0 hG k0 k1 k2 k3 hO0
      have c0 : w1.cell? ⟨wr.heap.size, 0, none⟩ = some (.string q.name) := by rw [Lib.cell_of_heap hN1]; rfl
      have h1 := go_bulk hG1 q.name (by rw [List.length_append]; omega)
      go_wp2_with (go_at_call 42; refine h1.mono ?_; rintro e w2 ⟨rfl, hG2, hO2⟩; refine Hid.out ?_)
      refine Lib.hid ?_
      have hN2 := hO2 _ _ _ _ hN1 (by decide) (by decide) (by decide) (by decide)
      have hOO2 := hOO1.trans hO2
      clear h1 hN1 hO2 hG1 c0 hOO1
      have c0 : w2.cell? ⟨wr.heap.size, 1, none⟩ = some (.string q.addr) := by rw [Lib.cell_of_heap hN2]; rfl
      have h1 := go_bulk hG2 q.addr (by rw [List.length_append, List.length_append]; omega)
      go_wp2_with (go_at_call 42; refine h1.mono ?_; rintro e w3 ⟨rfl, hG3, hO3⟩; refine Hid.out ?_)
      refine Lib.hid ?_
      have hN3 := hO3 _ _ _ _ hN2 (by decide) (by decide) (by decide) (by decide)
      have hOO3 := hOO2.trans hO3
      clear h1 hN2 hO3 hG2 c0 hOO2
      have c0 : w3.cell? ⟨wr.heap.size, 2, none⟩ = some (.int .i64 q.weight) := by rw [Lib.cell_of_heap hN3]; rfl
      have h1 := go_integer hG3 q.weight hi1 (by rw [List.length_append, List.length_append, List.length_append]; omega)
      go_wp2_with (go_at_call 41; refine h1.mono ?_; rintro e w4 ⟨rfl, hG4, hO4⟩; refine Hid.out ?_)
      refine Lib.hid ?_
      have hN4 := hO4 _ _ _ _ hN3 (by decide) (by decide) (by decide) (by decide)
      have hOO4 := hOO3.trans hO4
      clear h1 hN3 hO4 hG3 c0 hOO3
      have c0 : w4.cell? ⟨wr.heap.size, 3, none⟩ = some (.string q.note) := by rw [Lib.cell_of_heap hN4]; rfl
      have h1 := go_bulk hG4 q.note (by rw [List.length_append, List.length_append, List.length_append, List.length_append]; omega)
      go_wp2_with (go_at_call 42; refine h1.mono ?_; rintro e w5 ⟨rfl, hG5, hO5⟩; refine Hid.out ?_)
      refine Lib.hid ?_
      have hOO5 := hOO4.trans hO5
      clear h1 hN4 hO5 hG4 c0 hOO4
      go_wp2
      go_roundg (gk - 1)
      case measure => have := Hk.out; omega
      case rel =>
        refine ⟨k + 1, by have := Hk.out; omega, by go_num, ?_, hqr.oth hOO5 (by decide) (by decide) (by decide) (by decide)⟩
        rw [encAll_take_succ Nd.enc ns k q Hqk.out, ← List.append_assoc, HL.out]
        simpa [Nd.enc] using hG5
    · have hleq : (ns.length : Int) ≤ (k : Int) := by have := Hk.out; omega
      have hkq : k = ns.length := by have := Hk.out; omega
      subst hkq
      rw [List.take_length] at hG
      go_wp2
      go_end0
      exact ⟨rfl, hG⟩
end Go.Proofs.Qxb6614442aDoor
