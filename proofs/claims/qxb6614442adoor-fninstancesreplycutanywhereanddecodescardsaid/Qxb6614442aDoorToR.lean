import Derived.Test.Qxb6614442aDoorZr
namespace Go.Proofs.Qxb6614442aDoor
open Go.RowKit

theorem info86 : (Tryd.prog.info? 86).map (fun i => (i.zero, i.size, i.bytes)) = some (some (.agg #[.string ⟨#[]⟩, .int .i64 0, .int .i64 0, .int .i64 0]), 4, 40) := by kernel_rfl
theorem info90 : (Tryd.prog.info? 90).map (fun i => (i.zero, i.size, i.bytes)) = some (some (.agg #[.string ⟨#[]⟩, .string ⟨#[]⟩, .slice none 0 0]), 3, 56) := by kernel_rfl
theorem info88 : (Tryd.prog.info? 88).map (fun i => (i.zero, i.size, i.bytes)) = some (some (.agg #[.int .i64 0, .string ⟨#[]⟩]), 2, 24) := by kernel_rfl

theorem make_rows (t e : TypeId) (z : Value) (sz by' : Nat) (ht : Tryd.prog.underlying t = some (.slice e)) (hi : (Tryd.prog.info? e).map (fun i => (i.zero, i.size, i.bytes)) = some (some z, sz, by')) (n : Nat) (hn : n ≤ 1048576) (hb : by' ≤ 100) :
    ∃ M : Array Value, M.size = n * sz ∧ ∀ W : World, (Instr.makeSlice t (.int .i64 (n : Int)) (.int .i64 (n : Int))).run Tryd.prog W = .ok (.slice (some ⟨W.heap.size, 0, none⟩) n n) (W.alloc (.cells M e)) := by
  obtain ⟨i0, hi0, hz0, hz1, hz2⟩ := info_parts hi
  refine ⟨madeCells z.cells (n * i0.size), by rw [size_madeCells, hz1], fun W => ?_⟩
  have hbb : ((by' : Nat) : Int) * (n : Int) ≤ 281474976710656 := by
    have h1 : by' * n ≤ 100 * 1048576 := Nat.mul_le_mul hb hn
    have h2 : ((by' * n : Nat) : Int) ≤ ((100 * 1048576 : Nat) : Int) := Int.ofNat_le.2 h1
    rw [Int.natCast_mul] at h2
    omega
  have h := run_make (P := Tryd.prog) W t e i0 z ht hi0 hz0 .i64 .i64 (n : Int) (n : Int) (by omega) (by omega) (by rw [hz2]; exact hbb) (by omega)
  simpa using h

/-- A slice that came in: the structs xs, z cells each. -/
def ARows (ao : Option Addr) (z : Nat) (xs : List (List Value)) (w : World) : Prop := xs = [] ∨ ∃ b o, ao = some ⟨b, o, none⟩ ∧ b < w.heap.size ∧ ∀ i r, xs[i]? = some r → ∀ j x, r[j]? = some x → w.cell? ⟨b, o + i * z + j, none⟩ = some x

theorem ARows.fr {ao : Option Addr} {z : Nat} {xs : List (List Value)} {w w' : World} (h : ARows ao z xs w) (f : Fr (fun _ => False) w w') : ARows ao z xs w' := by
  rcases h with h | ⟨b, o, e, hb, h⟩
  · exact Or.inl h
  · exact Or.inr ⟨b, o, e, Nat.lt_of_lt_of_le hb f.size, fun i r hi j x hj => f.cell (h i r hi j x hj) (fun e => e)⟩

/-- The first k structs of xs lie in block b; there is room for n. -/
def Filled (b : Nat) (t : TypeId) (z n k : Nat) (xs : List (List Value)) (w : World) : Prop := ∃ cur, w.heap[b]? = some (.cells cur t (0, 0)) ∧ cur.size = n * z ∧ ∀ i r, i < k → xs[i]? = some r → ∀ j x, r[j]? = some x → cur[i * z + j]? = some x

theorem Filled.rows {b : Nat} {t : TypeId} {z n : Nat} {xs : List (List Value)} {w : World} (h : Filled b t z n xs.length xs w) : HRows b t z xs w := by
  obtain ⟨cur, h1, -, h3⟩ := h
  refine ⟨cur, h1, fun i r hi => h3 i r ?_ hi⟩
  exact (List.getElem?_eq_some_iff.1 hi).1

theorem Filled.size {b : Nat} {t : TypeId} {z n k : Nat} {xs : List (List Value)} {w : World} (h : Filled b t z n k xs w) : b < w.heap.size := by
  obtain ⟨cur, h1, -⟩ := h
  exact Lib.lt_of_heap h1

theorem Filled.put4 {b : Nat} {t : TypeId} {n k : Nat} {xs : List (List Value)} {w : World} {y0 y1 y2 y3 : Value} (h : Filled b t 4 n k xs w) (hk : k < n) (hz : ∀ r ∈ xs, r.length = 4) (hx : xs[k]? = some [y0, y1, y2, y3]) :
    Filled b t 4 n (k + 1) xs ((((w.setCell ⟨b, k * 4, none⟩ y0).setCell ⟨b, k * 4 + 1, none⟩ y1).setCell ⟨b, k * 4 + 2, none⟩ y2).setCell ⟨b, k * 4 + 3, none⟩ y3).drew := by
  obtain ⟨cur, h1, h2, h3⟩ := h
  refine ⟨_, Lib.heap_setCell_same (i := k * 4 + 3) (Lib.heap_setCell_same (i := k * 4 + 2) (Lib.heap_setCell_same (i := k * 4 + 1) (Lib.heap_setCell_same (i := k * 4) h1 y0) y1) y2) y3, by simpa using h2, ?_⟩
  intro i r hi hr j x hj
  have hjl : j < 4 := by
    have := (List.getElem?_eq_some_iff.1 hj).1
    rw [hz r (List.mem_of_getElem? hr)] at this
    exact this
  by_cases hik : i < k
  · rw [Array.getElem?_setIfInBounds_ne (by omega), Array.getElem?_setIfInBounds_ne (by omega), Array.getElem?_setIfInBounds_ne (by omega), Array.getElem?_setIfInBounds_ne (by omega)]
    exact h3 i r hik hr j x hj
  · obtain rfl : i = k := by omega
    rw [hx] at hr
    cases hr
    match j, hjl, hj with
    | 0, _, hj => cases hj; rw [Array.getElem?_setIfInBounds_ne (by omega), Array.getElem?_setIfInBounds_ne (by omega), Array.getElem?_setIfInBounds_ne (by omega)]; exact Array.getElem?_setIfInBounds_self_of_lt (by omega)
    | 1, _, hj => cases hj; rw [Array.getElem?_setIfInBounds_ne (by omega), Array.getElem?_setIfInBounds_ne (by omega), Array.getElem?_setIfInBounds_self_of_lt (by simp; omega)]
    | 2, _, hj => cases hj; rw [Array.getElem?_setIfInBounds_ne (by omega), Array.getElem?_setIfInBounds_self_of_lt (by simp; omega)]
    | 3, _, hj => cases hj; rw [Array.getElem?_setIfInBounds_self_of_lt (by simp; omega)]

theorem Filled.put3 {b : Nat} {t : TypeId} {n k : Nat} {xs : List (List Value)} {w : World} {y0 y1 y2 : Value} (h : Filled b t 3 n k xs w) (hk : k < n) (hz : ∀ r ∈ xs, r.length = 3) (hx : xs[k]? = some [y0, y1, y2]) :
    Filled b t 3 n (k + 1) xs (((w.setCell ⟨b, k * 3, none⟩ y0).setCell ⟨b, k * 3 + 1, none⟩ y1).setCell ⟨b, k * 3 + 2, none⟩ y2).drew := by
  obtain ⟨cur, h1, h2, h3⟩ := h
  refine ⟨_, Lib.heap_setCell_same (i := k * 3 + 2) (Lib.heap_setCell_same (i := k * 3 + 1) (Lib.heap_setCell_same (i := k * 3) h1 y0) y1) y2, by simpa using h2, ?_⟩
  intro i r hi hr j x hj
  have hjl : j < 3 := by
    have := (List.getElem?_eq_some_iff.1 hj).1
    rw [hz r (List.mem_of_getElem? hr)] at this
    exact this
  by_cases hik : i < k
  · rw [Array.getElem?_setIfInBounds_ne (by omega), Array.getElem?_setIfInBounds_ne (by omega), Array.getElem?_setIfInBounds_ne (by omega)]
    exact h3 i r hik hr j x hj
  · obtain rfl : i = k := by omega
    rw [hx] at hr
    cases hr
    match j, hjl, hj with
    | 0, _, hj => cases hj; rw [Array.getElem?_setIfInBounds_ne (by omega), Array.getElem?_setIfInBounds_ne (by omega)]; exact Array.getElem?_setIfInBounds_self_of_lt (by omega)
    | 1, _, hj => cases hj; rw [Array.getElem?_setIfInBounds_ne (by omega), Array.getElem?_setIfInBounds_self_of_lt (by simp; omega)]
    | 2, _, hj => cases hj; rw [Array.getElem?_setIfInBounds_self_of_lt (by simp; omega)]

theorem Filled.put2 {b : Nat} {t : TypeId} {n k : Nat} {xs : List (List Value)} {w : World} {y0 y1 : Value} (h : Filled b t 2 n k xs w) (hk : k < n) (hz : ∀ r ∈ xs, r.length = 2) (hx : xs[k]? = some [y0, y1]) :
    Filled b t 2 n (k + 1) xs ((w.setCell ⟨b, k * 2, none⟩ y0).setCell ⟨b, k * 2 + 1, none⟩ y1).drew := by
  obtain ⟨cur, h1, h2, h3⟩ := h
  refine ⟨_, Lib.heap_setCell_same (i := k * 2 + 1) (Lib.heap_setCell_same (i := k * 2) h1 y0) y1, by simpa using h2, ?_⟩
  intro i r hi hr j x hj
  have hjl : j < 2 := by
    have := (List.getElem?_eq_some_iff.1 hj).1
    rw [hz r (List.mem_of_getElem? hr)] at this
    exact this
  by_cases hik : i < k
  · rw [Array.getElem?_setIfInBounds_ne (by omega), Array.getElem?_setIfInBounds_ne (by omega)]
    exact h3 i r hik hr j x hj
  · obtain rfl : i = k := by omega
    rw [hx] at hr
    cases hr
    match j, hjl, hj with
    | 0, _, hj => cases hj; rw [Array.getElem?_setIfInBounds_ne (by omega)]; exact Array.getElem?_setIfInBounds_self_of_lt (by omega)
    | 1, _, hj => cases hj; rw [Array.getElem?_setIfInBounds_self_of_lt (by simp; omega)]

theorem Filled.fr {b : Nat} {t : TypeId} {z n k : Nat} {xs : List (List Value)} {S : Nat → Prop} {w w' : World} (h : Filled b t z n k xs w) (f : Fr S w w') (hn : ¬ S b) : Filled b t z n k xs w' := by
  obtain ⟨cur, h1, h2⟩ := h
  exact ⟨cur, f.heap h1 hn, h2⟩

theorem fr_put4 (w : World) (b k : Nat) (y0 y1 y2 y3 : Value) : Fr (fun i => i = b) w ((((w.setCell ⟨b, k * 4, none⟩ y0).setCell ⟨b, k * 4 + 1, none⟩ y1).setCell ⟨b, k * 4 + 2, none⟩ y2).setCell ⟨b, k * 4 + 3, none⟩ y3).drew :=
  (((((Fr.refl (fun i => i = b) w).setCell (p := ⟨b, k * 4, none⟩) (Or.inl rfl) _).setCell (p := ⟨b, k * 4 + 1, none⟩) (Or.inl rfl) _).setCell (p := ⟨b, k * 4 + 2, none⟩) (Or.inl rfl) _).setCell (p := ⟨b, k * 4 + 3, none⟩) (Or.inl rfl) _).drew
theorem fr_put3 (w : World) (b k : Nat) (y0 y1 y2 : Value) : Fr (fun i => i = b) w (((w.setCell ⟨b, k * 3, none⟩ y0).setCell ⟨b, k * 3 + 1, none⟩ y1).setCell ⟨b, k * 3 + 2, none⟩ y2).drew :=
  ((((Fr.refl (fun i => i = b) w).setCell (p := ⟨b, k * 3, none⟩) (Or.inl rfl) _).setCell (p := ⟨b, k * 3 + 1, none⟩) (Or.inl rfl) _).setCell (p := ⟨b, k * 3 + 2, none⟩) (Or.inl rfl) _).drew
theorem fr_put2 (w : World) (b k : Nat) (y0 y1 : Value) : Fr (fun i => i = b) w ((w.setCell ⟨b, k * 2, none⟩ y0).setCell ⟨b, k * 2 + 1, none⟩ y1).drew :=
  (((Fr.refl (fun i => i = b) w).setCell (p := ⟨b, k * 2, none⟩) (Or.inl rfl) _).setCell (p := ⟨b, k * 2 + 1, none⟩) (Or.inl rfl) _).drew

structure Ba where
  d : Bd
  ma : Option Addr
  mc : Nat

def Ba.cells (m : Ba) : List Value := [.string m.d.group, .string m.d.cluster, .slice m.ma m.d.mems.length m.mc]

theorem Filled.more {b : Nat} {t : TypeId} {z n k : Nat} {xs ys : List (List Value)} {w : World} (h : Filled b t z n k xs w) (he : ∀ i, i < k → ys[i]? = xs[i]?) : Filled b t z n k ys w := by
  obtain ⟨cur, h1, h2, h3⟩ := h
  exact ⟨cur, h1, h2, fun i r hi hr => h3 i r hi (by rw [← he i hi]; exact hr)⟩

set_option maxHeartbeats 4000000 in
set_option maxRecDepth 20000 in
theorem toRoute (rev : Int) (qs : List Qd) (qa : Option Addr) (qc : Nat) (bs : List Ba) (ba : Option Addr) (bc : Nat) (w : World) (hql : qs.length ≤ 1048576) (hq : ARows qa 4 (qs.map Qd.cells) w)
    (hbl : bs.length ≤ 1048576) (hb : ARows ba 3 (bs.map Ba.cells) w) (hml : ∀ m ∈ bs, m.d.mems.length ≤ 1048576 ∧ ARows m.ma 2 (m.d.mems.map Md.cells) w) :
    Calls Tryd.prog 23 #[.int .i64 rev, .slice qa qs.length qc, .slice ba bs.length bc] w fun e w' => ∃ (qg bg : Nat) (bl : List Bm), e = .returned (.agg #[.int .i64 rev, .slice (some ⟨qg, 0, none⟩) qs.length qs.length, .slice (some ⟨bg, 0, none⟩) bs.length bs.length]) ∧
      bl.map Bm.d = bs.map Ba.d ∧ HRows qg 86 4 (qs.map Qd.cells) w' ∧ HRows bg 90 3 (bl.map Bm.cells) w' ∧ (∀ m ∈ bl, HRows m.mg 88 2 (m.d.mems.map Md.cells) w') ∧ Fr (fun _ => False) w w' := by
  have Hml := Lib.hid hml
  have Hb := Lib.hid hb
  clear hml hb
  obtain ⟨M2, hM2, hmk2⟩ := make_rows 46 90 _ 3 56 Tryd.underlying46 info90 bs.length hbl (by omega)
  have hbn : (bs.length : Int) ≤ 1048576 := by omega
  obtain ⟨M1, hM1, hmk1⟩ := make_rows 45 86 _ 4 40 Tryd.underlying45 info86 qs.length hql (by omega)
  have hqn : (qs.length : Int) ≤ 1048576 := by omega
  go_enter Tryd.func23, Tryd.ntmps23
  go_wp2
  have hf0 : Fr (fun _ => False) w ((w.alloc (.cells #[.int .i64 0, .slice none 0 0, .slice none 0 0] 48)).alloc (.cells M1 86)) := ((Fr.refl _ w).alloc _).alloc _
  have hb0 : ((w.alloc (.cells #[.int .i64 0, .slice none 0 0, .slice none 0 0] 48)).alloc (.cells M1 86)).heap[w.heap.size]? = some (.cells #[.int .i64 0, .slice none 0 0, .slice none 0 0] 48 (0, 0)) := by
    rw [Below.heap_alloc _ _ _ (by simp)]; exact heap_alloc_new _ _
  have hm0 : ((w.alloc (.cells #[.int .i64 0, .slice none 0 0, .slice none 0 0] 48)).alloc (.cells M1 86)).heap[w.heap.size + 1]? = some (.cells M1 86 (0, 0)) := by
    have := heap_alloc_new (w.alloc (.cells #[.int .i64 0, .slice none 0 0, .slice none 0 0] 48)) (.cells M1 86)
    simpa using this
  go_loopg [8] qs.length (fun gk kv wr => ∃ k : Nat, gk + k = qs.length ∧ kv = .int .i64 (k : Int) ∧ wr.heap.size = w.heap.size + 2 ∧ Fr (fun _ => False) w wr ∧ Filled (w.heap.size + 1) 86 4 qs.length k (qs.map Qd.cells) wr ∧ wr.heap[w.heap.size]? = some (.cells #[.int .i64 0, .slice none 0 0, .slice none 0 0] 48 (0, 0)))
  case atStart => exact ⟨0, by omega, rfl, by simp, hf0, ⟨M1, hm0, hM1, fun i r hi => absurd hi (by omega)⟩, hb0⟩
  case round =>
    obtain ⟨k, hk, rfl, hsz, hfr, hfil, hbx⟩ := hrel
    have Hk : Hid (gk + k = qs.length) := hk
    have Hsz := Lib.hid hsz
    clear hk hsz hf0 hb0 hm0 hmk1
    by_cases hlt : k < qs.length
    · have hqk : qs[k]? = some qs[k] := List.getElem?_eq_getElem hlt
      generalize qs[k] = q at hqk
      have hr : (qs.map Qd.cells)[k]? = some q.cells := by rw [List.getElem?_map, hqk]; rfl
      have hlti : (k : Int) < (qs.length : Int) := by omega
      have hk0 : (0 : Int) ≤ (k : Int) := by omega
      rcases hq with he | ⟨qb, qo, rfl, hqb, hc⟩
      · rw [he] at hr; simp at hr
      obtain ⟨cur, hcu, hcs, hcf⟩ := hfil
      have a0 := hfr.cell (hc k _ hr 0 _ rfl) (fun e => e)
      have a1 := hfr.cell (hc k _ hr 1 _ rfl) (fun e => e)
      have a2 := hfr.cell (hc k _ hr 2 _ rfl) (fun e => e)
      have a3 := hfr.cell (hc k _ hr 3 _ rfl) (fun e => e)
      simp only [Nat.add_zero] at a0
      obtain ⟨x0, e0⟩ : ∃ x, cur[k * 4]? = some x := ⟨_, Array.getElem?_eq_getElem (by omega)⟩
      obtain ⟨x1, e1⟩ : ∃ x, cur[k * 4 + 1]? = some x := ⟨_, Array.getElem?_eq_getElem (by omega)⟩
      obtain ⟨x2, e2⟩ : ∃ x, cur[k * 4 + 2]? = some x := ⟨_, Array.getElem?_eq_getElem (by omega)⟩
      obtain ⟨x3, e3⟩ : ∃ x, cur[k * 4 + 3]? = some x := ⟨_, Array.getElem?_eq_getElem (by omega)⟩
      have d0 : wr.cell? ⟨w.heap.size + 1, k * 4, none⟩ = some x0 := by rw [Lib.cell_of_heap hcu]; exact e0
      have d1 : wr.cell? ⟨w.heap.size + 1, k * 4 + 1, none⟩ = some x1 := by rw [Lib.cell_of_heap hcu]; exact e1
      have d2 : wr.cell? ⟨w.heap.size + 1, k * 4 + 2, none⟩ = some x2 := by rw [Lib.cell_of_heap hcu]; exact e2
      have d3 : wr.cell? ⟨w.heap.size + 1, k * 4 + 3, none⟩ = some x3 := by rw [Lib.cell_of_heap hcu]; exact e3
      have f0 := Lib.frozen_of_heap hcu (k * 4)
      have f1 := Lib.frozen_of_heap hcu (k * 4 + 1)
      have f2 := Lib.frozen_of_heap hcu (k * 4 + 2)
      have f3 := Lib.frozen_of_heap hcu (k * 4 + 3)
      have hne : ¬ qb = w.heap.size + 1 := by omega
      have hne' : ¬ w.heap.size + 1 = qb := by omega
      have E := Lib.hid (And.intro e0 (And.intro e1 (And.intro e2 e3)))
      clear e0 e1 e2 e3 hc
      go_wp2
      go_region_held3 (fun w' => w'.cell? ⟨qb, qo + k * 4, none⟩ = some (.string q.group) ∧ w'.cell? ⟨qb, qo + k * 4 + 1, none⟩ = some (.int .i64 q.read) ∧ w'.cell? ⟨qb, qo + k * 4 + 2, none⟩ = some (.int .i64 q.write) ∧ w'.cell? ⟨qb, qo + k * 4 + 3, none⟩ = some (.int .i64 q.perm)) (go_keep)
        (first | (go_at_call 82; fail))
      go_wp2
      go_roundg (gk - 1)
      case measure => have := Hk.out; omega
      case rel =>
        have hfp := fr_put4 wr (w.heap.size + 1) k (.string q.group) (.int .i64 q.read) (.int .i64 q.write) (.int .i64 q.perm)
        refine ⟨k + 1, by have := Hk.out; omega, by go_num, ?_, hfr.trans hfp (fun i hi => Or.inr (by omega)), Filled.put4 ⟨cur, hcu, hcs, hcf⟩ hlt (by intro r hr'; obtain ⟨q', -, rfl⟩ := List.mem_map.1 hr'; rfl) hr, hfp.heap hbx (by omega)⟩
        simpa [World.setCell] using Hsz.out
    · have hkq : k = qs.length := by have := Hk.out; omega
      have hle : (qs.length : Int) ≤ (k : Int) := by omega
      subst hkq
      have hrq : HRows (w.heap.size + 1) 86 4 (qs.map Qd.cells) wr := by
        refine Filled.rows (n := qs.length) ?_
        rw [List.length_map]; exact hfil
      have hsz2 := Hsz.out
      have hmk2' := hmk2 wr
      rw [hsz2] at hmk2'
      have hsz3 : (wr.alloc (.cells M2 90)).heap.size = w.heap.size + 3 := by simp [hsz2]
      have hf1 := hfr.alloc (.cells M2 90)
      have hm1 : (wr.alloc (.cells M2 90)).heap[w.heap.size + 2]? = some (.cells M2 90 (0, 0)) := by
        have := heap_alloc_new wr (.cells M2 90)
        rw [hsz2] at this; exact this
      have hw2 : Fr (fun _ => False) wr (wr.alloc (.cells M2 90)) := (Fr.refl _ wr).alloc _
      have hrq1 := hw2.rows_kept hrq (fun e => e)
      have hbx1 := hw2.heap hbx (fun e => e)
      clear hfil hrq hbx hmk2 hw2 hsz2 hfr
      go_wp2
      go_loopg [10] bs.length (fun gk kv wr => ∃ (k : Nat) (bl : List Bm), gk + k = bs.length ∧ kv = .int .i64 (k : Int) ∧ w.heap.size + 3 ≤ wr.heap.size ∧ Fr (fun _ => False) w wr ∧ HRows (w.heap.size + 1) 86 4 (qs.map Qd.cells) wr ∧ wr.heap[w.heap.size]? = some (.cells #[.int .i64 0, .slice none 0 0, .slice none 0 0] 48 (0, 0)) ∧
        bl.length = k ∧ bl.map Bm.d = (bs.map Ba.d).take k ∧ Filled (w.heap.size + 2) 90 3 bs.length k (bl.map Bm.cells) wr ∧ (∀ m ∈ bl, HRows m.mg 88 2 (m.d.mems.map Md.cells) wr))
      case atStart => exact ⟨0, [], by omega, rfl, by omega, hf1, hrq1, hbx1, rfl, rfl, ⟨M2, hm1, hM2, fun i r hi => absurd hi (by omega)⟩, fun m hm => by cases hm⟩
      case round =>
        obtain ⟨k, bl, hk, rfl, hsz, hfr, hrq, hbx, hbk, hbd, hfil, hms⟩ := hrel
        have Hk2 := Lib.hid hk
        have Hbk := Lib.hid (And.intro hbk hbd)
        clear hk hbk hbd hf1 hm1 hrq1 hbx1 hmk2' hsz3 Hk Hsz
        by_cases hlt2 : k < bs.length
        · have hbk2 : bs[k]? = some bs[k] := List.getElem?_eq_getElem hlt2
          generalize bs[k] = m at hbk2
          obtain ⟨hm1, hm2⟩ := Hml.out m (List.mem_of_getElem? hbk2)
          have hr : (bs.map Ba.cells)[k]? = some m.cells := by rw [List.getElem?_map, hbk2]; rfl
          have hlti : (k : Int) < (bs.length : Int) := by omega
          have hk0 : (0 : Int) ≤ (k : Int) := by omega
          rcases Hb.out with he | ⟨bb, bo, rfl, hbb, hc⟩
          · rw [he] at hr; simp at hr
          have a0 := hfr.cell (hc k _ hr 0 _ rfl) (fun e => e)
          have a1 := hfr.cell (hc k _ hr 1 _ rfl) (fun e => e)
          have a2 := hfr.cell (hc k _ hr 2 _ rfl) (fun e => e)
          simp only [Nat.add_zero] at a0
          have Hbk2 := Lib.hid hbk2
          clear hc hr hbk2
          obtain ⟨M3, hM3, hmk3⟩ := make_rows 87 88 _ 2 24 Tryd.underlying87 info88 m.d.mems.length hm1 (by omega)
          have hmn : (m.d.mems.length : Int) ≤ 1048576 := by omega
          go_wp2
          have hfA : Fr (fun _ => False) wr (wr.alloc (.cells M3 88)) := (Fr.refl _ wr).alloc _
          have hmA : (wr.alloc (.cells M3 88)).heap[wr.heap.size]? = some (.cells M3 88 (0, 0)) := heap_alloc_new _ _
          have hrqA := hfA.rows_kept hrq (fun e => e)
          have hbxA := hfA.heap hbx (fun e => e)
          have hfilA := hfil.fr hfA (fun e => e)
          have hmsA : Hid (∀ x ∈ bl, HRows x.mg 88 2 (x.d.mems.map Md.cells) (wr.alloc (.cells M3 88))) := fun x hx => hfA.rows_kept (hms x hx) (fun e => e)
          have HmsO : Hid (∀ x ∈ bl, x.mg < wr.heap.size) := fun x hx => by obtain ⟨c9, h9, -⟩ := hms x hx; exact Lib.lt_of_heap h9
          have hfrA := hfr.trans hfA (fun _ e => e.elim)
          have hszA : w.heap.size + 3 ≤ (wr.alloc (.cells M3 88)).heap.size := by simp; omega
          have hbbw : bb < wr.heap.size := Nat.lt_of_lt_of_le hbb hfr.size
          have hrqlt : w.heap.size + 1 < wr.heap.size := by omega
          clear hrq hbx hfil hms hmk3
          obtain ⟨ns, hns⟩ : ∃ ns, ns = wr.heap.size := ⟨_, rfl⟩
          have Hns := Lib.hid hns
          obtain ⟨WA, hWA⟩ : ∃ WA, WA = wr.alloc (.cells M3 88) := ⟨_, rfl⟩
          have HWA := Lib.hid hWA
          rw [← hWA] at hfA hmA hrqA hbxA hfilA hmsA hfrA hszA
          rw [← hns] at hmA hbbw hrqlt
          clear hWA hns
          obtain ⟨wo, rfl⟩ : ∃ wo : World, wo = wr := ⟨_, rfl⟩
          obtain ⟨ko, rfl⟩ : ∃ ko : Nat, ko = k := ⟨_, rfl⟩
          obtain ⟨go, rfl⟩ : ∃ go : Nat, go = gk := ⟨_, rfl⟩
          go_loopg [12] m.d.mems.length (fun gk kv wr => ∃ (k : Nat), gk + k = m.d.mems.length ∧ kv = .int .i64 (k : Int) ∧ Fr (fun i => i = ns) WA wr ∧ Filled ns 88 2 m.d.mems.length k (m.d.mems.map Md.cells) wr)
          case atStart => exact ⟨0, by omega, rfl, by rw [HWA.out]; exact Fr.refl _ _, ⟨M3, by rw [← HWA.out]; exact hmA, hM3, fun i r hi => absurd hi (by omega)⟩⟩
          case round =>
            obtain ⟨k, hk, rfl, hfi, hfil⟩ := hrel
            have Hk3 := Lib.hid hk
            clear hk
            have hwr : Fr (fun i => i = ns) wo wr := (hfA.mono (fun _ e => e.elim)).trans hfi (fun i hi => Or.inl hi)
            have b0 := hwr.cell a0 (show ¬ bb = ns by omega)
            have b1 := hwr.cell a1 (show ¬ bb = ns by omega)
            have b2 := hwr.cell a2 (show ¬ bb = ns by omega)
            clear a0 a1 a2
            by_cases hlt3 : k < m.d.mems.length
            · have hmk : m.d.mems[k]? = some m.d.mems[k] := List.getElem?_eq_getElem hlt3
              generalize m.d.mems[k] = x at hmk
              have hr : (m.d.mems.map Md.cells)[k]? = some x.cells := by rw [List.getElem?_map, hmk]; rfl
              have hlt3i : (k : Int) < (m.d.mems.length : Int) := by omega
              have hk30 : (0 : Int) ≤ (k : Int) := by omega
              rcases hm2 with he | ⟨mb, mo, hma, hmb, hc⟩
              · rw [he] at hr; simp at hr
              have hmbn : mb < ns := by have := Hns.out; have := hfr.size; omega
              have p0 := hwr.cell (hfr.cell (hc k _ hr 0 _ rfl) (fun e => e)) (show ¬ mb = ns by omega)
              have p1 := hwr.cell (hfr.cell (hc k _ hr 1 _ rfl) (fun e => e)) (show ¬ mb = ns by omega)
              simp only [Nat.add_zero] at p0
              obtain ⟨cur, hcu, hcs, hcf⟩ := hfil
              obtain ⟨x0, e0⟩ : ∃ x, cur[k * 2]? = some x := ⟨_, Array.getElem?_eq_getElem (by omega)⟩
              obtain ⟨x1, e1⟩ : ∃ x, cur[k * 2 + 1]? = some x := ⟨_, Array.getElem?_eq_getElem (by omega)⟩
              have d0 : wr.cell? ⟨ns, k * 2, none⟩ = some x0 := by rw [Lib.cell_of_heap hcu]; exact e0
              have d1 : wr.cell? ⟨ns, k * 2 + 1, none⟩ = some x1 := by rw [Lib.cell_of_heap hcu]; exact e1
              have f0 := Lib.frozen_of_heap hcu (k * 2)
              have f1 := Lib.frozen_of_heap hcu (k * 2 + 1)
              have hne : ¬ mb = ns := by omega
              have hne' : ¬ ns = mb := by omega
              have hne2 : ¬ bb = ns := by omega
              have hne2' : ¬ ns = bb := by omega
              clear e0 e1 hc
              rw [hma] at b2
              clear hma
              rw [Hns.out] at d0 d1 f0 f1 hne hne' hne2 hne2'
              go_wp2
              go_region_held3 (fun w' => w'.cell? ⟨bb, bo + ko * 3 + 2, none⟩ = some (.slice (some ⟨mb, mo, none⟩) m.d.mems.length m.mc) ∧ w'.cell? ⟨mb, mo + k * 2, none⟩ = some (.int .i64 x.id) ∧ w'.cell? ⟨mb, mo + k * 2 + 1, none⟩ = some (.string x.addr)) (go_keep)
                (first | (go_at_call 82; fail))
              go_wp2
              go_roundg (gk - 1)
              case measure => have := Hk3.out; omega
              case rel =>
                have hfp := fr_put2 wr ns k (.int .i64 x.id) (.string x.addr)
                have hpt := Filled.put2 (y0 := .int .i64 x.id) (y1 := .string x.addr) ⟨cur, hcu, hcs, hcf⟩ hlt3 (by intro r hr'; obtain ⟨q', -, rfl⟩ := List.mem_map.1 hr'; rfl) hr
                rw [Hns.out] at hfp hpt
                refine ⟨k + 1, by have := Hk3.out; omega, by go_num, ?_, ?_⟩
                · rw [Hns.out] at hfi ⊢; exact hfi.trans hfp (fun i hi => Or.inl hi)
                · rw [Hns.out]; exact hpt
            · have hkm : k = m.d.mems.length := by have := Hk3.out; omega
              have hle3 : (m.d.mems.length : Int) ≤ (k : Int) := by omega
              have hmsr : HRows ns 88 2 (m.d.mems.map Md.cells) wr := by
                refine Filled.rows (n := m.d.mems.length) ?_
                rw [List.length_map, ← hkm]; rw [← hkm] at hfil; exact hfil
              have Hkm := Lib.hid hkm
              have hnrb : ¬ w.heap.size + 2 = ns := by have := Hns.out; omega
              have hfilR := hfilA.fr hfi hnrb
              have hrqR := hfi.rows_kept hrqA (show ¬ w.heap.size + 1 = ns by omega)
              have hbxR := hfi.heap hbxA (show ¬ w.heap.size = ns by omega)
              have hmsR : ∀ x ∈ bl, HRows x.mg 88 2 (x.d.mems.map Md.cells) wr := by
                intro x hx
                have h9 := hmsA.out x hx
                refine hfi.rows_kept h9 (fun e => ?_)
                have hxlt : x.mg < wo.heap.size := (HmsO.out x hx)
                have := Hns.out
                omega
              have hfrR : Fr (fun _ => False) w wr := hfrA.trans hfi (fun i hi => Or.inr (by have := Hns.out; have := hfr.size; omega))
              obtain ⟨cur, hcu, hcs, hcf⟩ := hfilR
              obtain ⟨x0, e0⟩ : ∃ x, cur[ko * 3]? = some x := ⟨_, Array.getElem?_eq_getElem (by omega)⟩
              obtain ⟨x1, e1⟩ : ∃ x, cur[ko * 3 + 1]? = some x := ⟨_, Array.getElem?_eq_getElem (by omega)⟩
              obtain ⟨x2, e2⟩ : ∃ x, cur[ko * 3 + 2]? = some x := ⟨_, Array.getElem?_eq_getElem (by omega)⟩
              have d0 : wr.cell? ⟨w.heap.size + 2, ko * 3, none⟩ = some x0 := by rw [Lib.cell_of_heap hcu]; exact e0
              have d1 : wr.cell? ⟨w.heap.size + 2, ko * 3 + 1, none⟩ = some x1 := by rw [Lib.cell_of_heap hcu]; exact e1
              have d2 : wr.cell? ⟨w.heap.size + 2, ko * 3 + 2, none⟩ = some x2 := by rw [Lib.cell_of_heap hcu]; exact e2
              have f0 := Lib.frozen_of_heap hcu (ko * 3)
              have f1 := Lib.frozen_of_heap hcu (ko * 3 + 1)
              have f2 := Lib.frozen_of_heap hcu (ko * 3 + 2)
              have hne2 : ¬ bb = w.heap.size + 2 := by omega
              have hne2' : ¬ w.heap.size + 2 = bb := by omega
              clear e0 e1 e2 hkm hfilA hrqA hbxA hmsA hfA hmA hfrA hwr hfil hfi
              go_wp2
              go_region_held3 (fun w' => w'.cell? ⟨bb, bo + ko * 3, none⟩ = some (.string m.d.group) ∧ w'.cell? ⟨bb, bo + ko * 3 + 1, none⟩ = some (.string m.d.cluster)) (go_keep)
                (first | (go_at_call 82; fail))
              go_wp2
              go_roundg (go - 1)
              case measure => have := Hk2.out; omega
              case rel =>
                have hfp := fr_put3 wr (w.heap.size + 2) ko (.string m.d.group) (.string m.d.cluster) (.slice (some ⟨wo.heap.size, 0, none⟩) m.d.mems.length m.d.mems.length)
                obtain ⟨hbk, hbd⟩ := Hbk.out
                have hlast : ((bl ++ [Bm.mk m.d wo.heap.size m.d.mems.length]).map Bm.cells)[ko]? = some [.string m.d.group, .string m.d.cluster, .slice (some ⟨wo.heap.size, 0, none⟩) m.d.mems.length m.d.mems.length] := by
                  rw [List.getElem?_map, List.getElem?_append_right (by omega)]
                  simp [hbk, Bm.cells]
                have hpt := Filled.put3 (Filled.more (ys := (bl ++ [Bm.mk m.d wo.heap.size m.d.mems.length]).map Bm.cells) ⟨cur, hcu, hcs, hcf⟩ (by intro i hi; rw [List.map_append, List.getElem?_append_left (by rw [List.length_map]; omega)])) hlt2
                  (by intro r hr'; obtain ⟨q', -, rfl⟩ := List.mem_map.1 hr'; rfl) hlast
                have hfR2 := hfrR.trans hfp (fun i hi => Or.inr (by omega))
                refine ⟨ko + 1, bl ++ [Bm.mk m.d wo.heap.size m.d.mems.length], by have := Hk2.out; omega, by go_num, ?_, hfR2, hfp.rows_kept hrqR (by omega), hfp.heap hbxR (by omega), by simp [hbk], ?_, hpt, ?_⟩
                · have h1 := hfp.size
                  have h2 : ns < wr.heap.size := by obtain ⟨c9, h9, -⟩ := hmsr; exact Lib.lt_of_heap h9
                  have := Hns.out
                  omega
                · rw [List.map_append, hbd, List.take_add_one, List.getElem?_map, Hbk2.out]
                  rfl
                · intro x hx
                  rcases List.mem_append.1 hx with hx | hx
                  · refine hfp.rows_kept (hmsR x hx) (fun e => ?_)
                    obtain ⟨c1, h1, -⟩ := hmsR x hx
                    exact tag_ne h1 hcu (by decide) e
                  · have hx' : x = Bm.mk m.d wo.heap.size m.d.mems.length := by simpa using hx
                    subst hx'
                    have h9 := hfp.rows_kept hmsr (fun e => hnrb e.symm)
                    rw [Hns.out] at h9
                    exact h9
        · have hkb : k = bs.length := by have := Hk2.out; omega
          have hleb : (bs.length : Int) ≤ (k : Int) := by omega
          have c0 : wr.cell? ⟨w.heap.size, 0, none⟩ = some (.int .i64 0) := by rw [Lib.cell_of_heap hbx]; rfl
          have c1 : wr.cell? ⟨w.heap.size, 1, none⟩ = some (.slice none 0 0) := by rw [Lib.cell_of_heap hbx]; rfl
          have c2 : wr.cell? ⟨w.heap.size, 2, none⟩ = some (.slice none 0 0) := by rw [Lib.cell_of_heap hbx]; rfl
          have f0 := Lib.frozen_of_heap hbx 0
          have f1 := Lib.frozen_of_heap hbx 1
          have f2 := Lib.frozen_of_heap hbx 2
          have Hkb := Lib.hid hkb
          clear hkb
          go_wp2
          have hf3 : Fr (fun i => i = w.heap.size) wr (((wr.setCell ⟨w.heap.size, 0, none⟩ (.int .i64 rev)).setCell ⟨w.heap.size, 1, none⟩ (.slice (some ⟨w.heap.size + 1, 0, none⟩) qs.length qs.length)).setCell ⟨w.heap.size, 2, none⟩ (.slice (some ⟨w.heap.size + 2, 0, none⟩) bs.length bs.length)) :=
            (((Fr.refl (fun i => i = w.heap.size) wr).setCell (p := ⟨w.heap.size, 0, none⟩) (Or.inl rfl) _).setCell (p := ⟨w.heap.size, 1, none⟩) (Or.inl rfl) _).setCell (p := ⟨w.heap.size, 2, none⟩) (Or.inl rfl) _
          obtain ⟨hbk, hbd⟩ := Hbk.out
          have hkb := Hkb.out
          refine bodyPost_ret (v := .agg #[.int .i64 rev, .slice (some ⟨w.heap.size + 1, 0, none⟩) qs.length qs.length, .slice (some ⟨w.heap.size + 2, 0, none⟩) bs.length bs.length]) (by simp [results, Tryd.results23, go_sem, c0, c1, c2]) rfl ?_
          refine ⟨w.heap.size + 1, w.heap.size + 2, bl, rfl, ?_, hf3.rows_kept hrq (by omega), hf3.rows_kept ?_ (by omega), ?_, hfr.trans hf3 (fun i hi => Or.inr (by omega))⟩
          · rw [hbd, List.take_of_length_le (by rw [List.length_map]; omega)]
          · refine Filled.rows (n := bs.length) ?_
            rw [List.length_map, hbk]; exact hfil
          · intro x hx
            refine hf3.rows_kept (hms x hx) (fun e => ?_)
            obtain ⟨c9, h9, -⟩ := hms x hx
            exact tag_ne h9 hbx (by decide) e
end Go.Proofs.Qxb6614442aDoor
