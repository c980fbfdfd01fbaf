import Derived.Test.Qxb6614442aDoorLaw4
namespace Go.Proofs.Qxb6614442aDoor
open Go.RowKit

theorem nDigits_le (u : Nat) (hu : u < 18446744073709551616) : Lib.nDigits u ≤ 20 := by
  rcases Nat.lt_or_ge 20 (Lib.nDigits u) with h | h
  · have h1 := pow_le_nDigits u (by omega)
    have h2 : 10 ^ 20 ≤ 10 ^ (Lib.nDigits u - 1) := Nat.pow_le_pow_right (by decide) (by omega)
    have h3 : (10 : Nat) ^ 20 = 100000000000000000000 := by decide
    omega
  · exact h

theorem sliceTmp (b i : Nat) (h : i < 20) (W : World) : (Instr.sliceAt 95 (.pointer (some ⟨b, 0, none⟩)) (some (.int .i64 (i : Int))) none none).run Tryd.prog W = .ok (.slice (some ⟨b, i, none⟩) (20 - i) (20 - i)) W := by
  have hal : Tryd.prog.arrayLen 95 = 20 := by kernel_rfl
  have hs1 : (sizeOf (Tryd.prog.elem 95)).run Tryd.prog W = .ok 1 W := by kernel_rfl
  have hne : ¬ 20 = i := by omega
  rw [run_sliceAt_array_l W 95 _ (by kernel_rfl) .i64 (i : Int) (by omega) (by rw [hal]; omega), hs1]
  simp [slicedAt, hal, hne, Lib.addr_add]

set_option maxHeartbeats 4000000 in
set_option maxRecDepth 20000 in
theorem appendDec_pos (n u : Nat) (hu : u ≤ 9223372036854775807) (sv : Value) (xs : List Value) (w : World) (hown : w.ownsRow 0 5 1 sv n xs) (hlim : n + 20 ≤ 140737488355328) :
    Calls Tryd.prog 28 #[sv, .int .i64 (u : Int)] w fun e w' => ∃ v', e = .returned v' ∧ w'.ownsRow 0 5 1 v' (n + (Lib.itoa (u : Int)).length) (xs ++ Lib.byteCells (Lib.itoa (u : Int))) ∧ RowNew w sv v' ∧ Fr (fun k => some k = sv.ownBlock) w w' := by
  have hn20 := nDigits_le u (by omega)
  have hnn : ¬ (u : Int) < 0 := by omega
  have hw64 : IntKind.u64.wrap (u : Int) = (u : Int) := by rw [IntKind.wrap_u64]; omega
  obtain ⟨W0, hW0⟩ : ∃ W0 : World, W0 = w := ⟨_, rfl⟩
  subst hW0
  go_enter Tryd.func28, Tryd.ntmps28
  go_wp2
  go_loopg [5, 7] (Lib.nDigits u) (fun gk uv iv wr => ∃ (j i : Nat), gk + j = Lib.nDigits u ∧ i + j = 19 ∧ Lib.nDigits (u / 10 ^ j) + j = Lib.nDigits u ∧ uv = .int .u64 ((u / 10 ^ j : Nat) : Int) ∧ iv = .int .i64 ((i : Int) + 1) ∧ Fr (fun _ => False) W0 wr ∧ ∃ cur : Array Value, wr.heap[W0.heap.size]? = some (.cells cur 95 (0, 0)) ∧ cur.size = 20 ∧ ∀ t, t < j → cur[19 - t]? = some (.int .u8 ((Lib.dg u t).toNat : Int)))
  case atStart => exact ⟨0, 19, by omega, rfl, by simp, by simp, rfl, (Fr.refl _ W0).alloc _, _, heap_alloc_new _ _, rfl, fun t ht => absurd ht (by omega)⟩
  case round =>
    obtain ⟨j, i, hgj, hij, hnd, rfl, rfl, hfr, cur, hcu, hcs, hcf⟩ := hrel
    obtain ⟨x0, e0⟩ : ∃ x, cur[i]? = some x := ⟨_, Array.getElem?_eq_getElem (by omega)⟩
    have d0 : wr.cell? ⟨W0.heap.size, i, none⟩ = some x0 := by rw [Lib.cell_of_heap hcu]; exact e0
    have f0 := Lib.frozen_of_heap hcu i
    have hi19 : (i : Int) < 20 := by omega
    have Hd := Lib.hid (And.intro hgj (And.intro hnd (And.intro hcs hcf)))
    clear hgj hnd hcs hcf e0
    have hqb : u / 10 ^ j ≤ 9223372036854775808 := Nat.le_trans (Nat.div_le_self _ _) (by omega)
    generalize hqd : u / 10 ^ j = q at hqb
    have Hqd := Lib.hid hqd
    clear hqd
    by_cases hbig : 10 ≤ q
    · have hbigi : (10 : Int) ≤ (q : Int) := by omega
      go_wp2
      go_roundg (gk - 1)
      case measure => have := Hd.out.1; have := Hd.out.2.1; have hp := Lib.nDigits_pos (u / 10 ^ j); omega
      case rel =>
        obtain ⟨hgj, hnd, hcs, hcf⟩ := Hd.out
        have hqd := Hqd.out
        have hq1 : u / 10 ^ (j + 1) = q / 10 := by rw [Nat.pow_succ, ← Nat.div_div_eq_div_mul, hqd]
        rw [hqd, Lib.nDigits_big (show ¬ q < 10 by omega)] at hnd
        have hpos := Lib.nDigits_pos (q / 10)
        refine ⟨j + 1, i - 1, by omega, by omega, by rw [hq1]; omega, by rw [hq1]; go_num, ?_, hfr.setCell (p := ⟨W0.heap.size, i, none⟩) (Or.inr (Nat.le_refl _)) _, _, Lib.heap_setCell_same (i := i) hcu _, ?_, ?_⟩
        · congr 1; omega
        · simpa using hcs
        · intro t ht
          by_cases htj : t = j
          · subst htj
            rw [show 19 - t = i by omega, Array.getElem?_setIfInBounds_self_of_lt (by omega), dg_toNat, hqd]
            congr 2
          · rw [Array.getElem?_setIfInBounds_ne (by omega)]
            exact hcf t (by omega)
    · have hsmall : ¬ (10 : Int) ≤ (q : Int) := by omega
      have hsm2 : (q : Int) < 10 := by omega
      have hownW : (wr.setCell ⟨W0.heap.size, i, none⟩ (.int .u8 (48 + (q : Int)))).ownsRow 0 5 1 sv n xs := by
        have h1 := hfr.owns hown (fun _ _ h => h)
        have hf2 : Fr (fun k => k = W0.heap.size) wr (wr.setCell ⟨W0.heap.size, i, none⟩ (.int .u8 (48 + (q : Int)))) := (Fr.refl (fun k => k = W0.heap.size) wr).setCell (p := ⟨W0.heap.size, i, none⟩) (Or.inl rfl) _
        refine hf2.owns h1 (fun k hk e => ?_)
        have := (hown.lt k hk).2
        omega
      have Hown := Lib.hid hownW
      clear hownW
      have hsl := fun W => sliceTmp W0.heap.size i (by omega) W
      obtain ⟨hgj, hnd, hcs, hcf⟩ := Hd.out
      have hqd := Hqd.out
      rw [hqd, Lib.nDigits_small (show q < 10 by omega)] at hnd
      have hnd2 : 20 - i = (Lib.decDigits u).length := by rw [Lib.decDigits_length]; omega
      have hheap := Lib.heap_setCell_same (i := i) hcu (.int .u8 (48 + (q : Int)))
      have Hnew : Hid (∀ k v, (Lib.byteCells (Lib.decDigits u))[k]? = some v → (wr.setCell ⟨W0.heap.size, i, none⟩ (.int .u8 (48 + (q : Int)))).cell? ((⟨W0.heap.size, i, none⟩ : Addr).add k) = some v) := by
        refine Lib.hid fun k v hk => ?_
        unfold Lib.byteCells at hk
        rw [List.getElem?_map] at hk
        obtain ⟨b, hb, rfl⟩ := Option.map_eq_some_iff.1 hk
        have hkn : k < Lib.nDigits u := by have := (List.getElem?_eq_some_iff.1 hb).1; rw [Lib.decDigits_length] at this; exact this
        rw [dec_at u k hkn] at hb
        injection hb with hb
        subst hb
        rw [Go.WideShapes.add_plain, Lib.cell_of_heap hheap]
        by_cases hk0 : k = 0
        · subst hk0
          rw [Nat.add_zero, Array.getElem?_setIfInBounds_self_of_lt (by omega), show Lib.nDigits u - 1 - 0 = j by omega]
          have h9 := dg_toNat u j
          rw [hqd, Nat.mod_eq_of_lt (by omega)] at h9
          rw [h9]
        · rw [Array.getElem?_setIfInBounds_ne (by omega), show i + k = 19 - (Lib.nDigits u - 1 - k) by omega]
          exact hcf _ (by omega)
      have Hnd2 := Lib.hid hnd2
      have hnd2' := hnd2
      have hlen20 : (Lib.decDigits u).length ≤ 20 := by rw [Lib.decDigits_length]; omega
      rw [hnd2] at hsl
      clear hgj hnd hcs hcf hqd hheap hnd2 hnd2'
      go_wp2_with (at_builtin; refine wpList_append_x rfl _ _ rfl _ _ _ rfl Hown.out ⟨W0.heap.size, i, none⟩ (Lib.decDigits u).length (Lib.decDigits u).length (Lib.byteCells (Lib.decDigits u)) rfl (Lib.byteCells_length _) Hnew.out (Lib.byteCells_one _) (by omega) ?_)
      intro v' w7 hown' hgrow hnew
      go_wp2
      go_ret
      have hf2 : Fr (fun _ => False) W0 (wr.setCell ⟨W0.heap.size, i, none⟩ (.int .u8 (48 + (q : Int)))) := hfr.setCell (p := ⟨W0.heap.size, i, none⟩) (Or.inr (Nat.le_refl _)) _
      refine ⟨v', rfl, ?_, ?_, (hf2.mono (fun _ h => h.elim)).trans (Fr.grown hgrow) (fun k hk => Or.inl hk)⟩
      · rw [Lib.itoa_nonneg u]; exact hown'
      · rcases hnew with e | ⟨k, e1, e2⟩
        · exact Or.inl e
        · exact Or.inr ⟨k, e1, Nat.le_trans hf2.size e2⟩

set_option maxHeartbeats 4000000 in
set_option maxRecDepth 20000 in
theorem appendDec_neg (n u : Nat) (hu1 : 1 ≤ u) (hu : u ≤ 9223372036854775808) (sv : Value) (xs : List Value) (w : World) (hown0 : w.ownsRow 0 5 1 sv n xs) (hlim : n + 21 ≤ 140737488355328) :
    Calls Tryd.prog 28 #[sv, .int .i64 (-(u : Int))] w fun e w' => ∃ v', e = .returned v' ∧ w'.ownsRow 0 5 1 v' (n + (Lib.itoa (-(u : Int))).length) (xs ++ Lib.byteCells (Lib.itoa (-(u : Int)))) ∧ RowNew w sv v' ∧ Fr (fun k => some k = sv.ownBlock) w w' := by
  have hn20 := nDigits_le u (by omega)
  have hwr : IntKind.u64.wrap (-IntKind.u64.wrap (-(u : Int))) = (u : Int) := by rw [IntKind.wrap_u64, IntKind.wrap_u64]; omega
  have hneg : -(u : Int) < 0 := by omega
  go_enter Tryd.func28, Tryd.ntmps28
  go_wp2_with (at_builtin; refine wpList_append_x rfl _ _ rfl _ _ _ rfl (hown0.alloc _) ⟨w.heap.size, 0, none⟩ 1 1 [Value.int .u8 45] rfl rfl (by intro j u' hj; match j, hj with | 0, hj => simp at hj; subst hj; simp [Addr.add]) (by intro u' hu'; simp at hu'; subst hu'; rfl) (by omega) ?_)
  intro v1 W0 hown hgrow hnew
  have hfr1 : Fr (fun k => some k = sv.ownBlock) w W0 := ((Fr.refl _ w).alloc _).trans (Fr.grown hgrow) (fun i hi => Or.inl hi)
  have hnew1 : RowNew w sv v1 := orMap hnew (fun ⟨k, q1, q2⟩ => ⟨k, q1, by simp at q2; omega⟩)
  clear hgrow hnew
  go_wp2
  go_loopg [5, 7] (Lib.nDigits u) (fun gk uv iv wr => ∃ (j i : Nat), gk + j = Lib.nDigits u ∧ i + j = 19 ∧ Lib.nDigits (u / 10 ^ j) + j = Lib.nDigits u ∧ uv = .int .u64 ((u / 10 ^ j : Nat) : Int) ∧ iv = .int .i64 ((i : Int) + 1) ∧ Fr (fun _ => False) W0 wr ∧ ∃ cur : Array Value, wr.heap[W0.heap.size]? = some (.cells cur 95 (0, 0)) ∧ cur.size = 20 ∧ ∀ t, t < j → cur[19 - t]? = some (.int .u8 ((Lib.dg u t).toNat : Int)))
  case atStart => exact ⟨0, 19, by omega, rfl, by simp, by simp, rfl, (Fr.refl _ W0).alloc _, _, heap_alloc_new _ _, rfl, fun t ht => absurd ht (by omega)⟩
  case round =>
    obtain ⟨j, i, hgj, hij, hnd, rfl, rfl, hfr, cur, hcu, hcs, hcf⟩ := hrel
    obtain ⟨x0, e0⟩ : ∃ x, cur[i]? = some x := ⟨_, Array.getElem?_eq_getElem (by omega)⟩
    have d0 : wr.cell? ⟨W0.heap.size, i, none⟩ = some x0 := by rw [Lib.cell_of_heap hcu]; exact e0
    have f0 := Lib.frozen_of_heap hcu i
    have hi19 : (i : Int) < 20 := by omega
    have Hd := Lib.hid (And.intro hgj (And.intro hnd (And.intro hcs hcf)))
    clear hgj hnd hcs hcf e0
    have hqb : u / 10 ^ j ≤ 9223372036854775808 := Nat.le_trans (Nat.div_le_self _ _) (by omega)
    generalize hqd : u / 10 ^ j = q at hqb
    have Hqd := Lib.hid hqd
    clear hqd
    by_cases hbig : 10 ≤ q
    · have hbigi : (10 : Int) ≤ (q : Int) := by omega
      go_wp2
      go_roundg (gk - 1)
      case measure => have := Hd.out.1; have := Hd.out.2.1; have hp := Lib.nDigits_pos (u / 10 ^ j); omega
      case rel =>
        obtain ⟨hgj, hnd, hcs, hcf⟩ := Hd.out
        have hqd := Hqd.out
        have hq1 : u / 10 ^ (j + 1) = q / 10 := by rw [Nat.pow_succ, ← Nat.div_div_eq_div_mul, hqd]
        rw [hqd, Lib.nDigits_big (show ¬ q < 10 by omega)] at hnd
        have hpos := Lib.nDigits_pos (q / 10)
        refine ⟨j + 1, i - 1, by omega, by omega, by rw [hq1]; omega, by rw [hq1]; go_num, ?_, hfr.setCell (p := ⟨W0.heap.size, i, none⟩) (Or.inr (Nat.le_refl _)) _, _, Lib.heap_setCell_same (i := i) hcu _, ?_, ?_⟩
        · congr 1; omega
        · simpa using hcs
        · intro t ht
          by_cases htj : t = j
          · subst htj
            rw [show 19 - t = i by omega, Array.getElem?_setIfInBounds_self_of_lt (by omega), dg_toNat, hqd]
            congr 2
          · rw [Array.getElem?_setIfInBounds_ne (by omega)]
            exact hcf t (by omega)
    · have hsmall : ¬ (10 : Int) ≤ (q : Int) := by omega
      have hsm2 : (q : Int) < 10 := by omega
      have hownW : (wr.setCell ⟨W0.heap.size, i, none⟩ (.int .u8 (48 + (q : Int)))).ownsRow 0 5 1 v1 (n + 1) (xs ++ [Value.int .u8 45]) := by
        have h1 := hfr.owns hown (fun _ _ h => h)
        have hf2 : Fr (fun k => k = W0.heap.size) wr (wr.setCell ⟨W0.heap.size, i, none⟩ (.int .u8 (48 + (q : Int)))) := (Fr.refl (fun k => k = W0.heap.size) wr).setCell (p := ⟨W0.heap.size, i, none⟩) (Or.inl rfl) _
        refine hf2.owns h1 (fun k hk e => ?_)
        have := (hown.lt k hk).2
        omega
      have Hown := Lib.hid hownW
      clear hownW
      have hsl := fun W => sliceTmp W0.heap.size i (by omega) W
      obtain ⟨hgj, hnd, hcs, hcf⟩ := Hd.out
      have hqd := Hqd.out
      rw [hqd, Lib.nDigits_small (show q < 10 by omega)] at hnd
      have hnd2 : 20 - i = (Lib.decDigits u).length := by rw [Lib.decDigits_length]; omega
      have hheap := Lib.heap_setCell_same (i := i) hcu (.int .u8 (48 + (q : Int)))
      have Hnew : Hid (∀ k v, (Lib.byteCells (Lib.decDigits u))[k]? = some v → (wr.setCell ⟨W0.heap.size, i, none⟩ (.int .u8 (48 + (q : Int)))).cell? ((⟨W0.heap.size, i, none⟩ : Addr).add k) = some v) := by
        refine Lib.hid fun k v hk => ?_
        unfold Lib.byteCells at hk
        rw [List.getElem?_map] at hk
        obtain ⟨b, hb, rfl⟩ := Option.map_eq_some_iff.1 hk
        have hkn : k < Lib.nDigits u := by have := (List.getElem?_eq_some_iff.1 hb).1; rw [Lib.decDigits_length] at this; exact this
        rw [dec_at u k hkn] at hb
        injection hb with hb
        subst hb
        rw [Go.WideShapes.add_plain, Lib.cell_of_heap hheap]
        by_cases hk0 : k = 0
        · subst hk0
          rw [Nat.add_zero, Array.getElem?_setIfInBounds_self_of_lt (by omega), show Lib.nDigits u - 1 - 0 = j by omega]
          have h9 := dg_toNat u j
          rw [hqd, Nat.mod_eq_of_lt (by omega)] at h9
          rw [h9]
        · rw [Array.getElem?_setIfInBounds_ne (by omega), show i + k = 19 - (Lib.nDigits u - 1 - k) by omega]
          exact hcf _ (by omega)
      have Hnd2 := Lib.hid hnd2
      have hnd2' := hnd2
      have hlen20 : (Lib.decDigits u).length ≤ 20 := by rw [Lib.decDigits_length]; omega
      rw [hnd2] at hsl
      clear hgj hnd hcs hcf hqd hheap hnd2 hnd2'
      go_wp2_with (at_builtin; refine wpList_append_x rfl _ _ rfl _ _ _ rfl Hown.out ⟨W0.heap.size, i, none⟩ (Lib.decDigits u).length (Lib.decDigits u).length (Lib.byteCells (Lib.decDigits u)) rfl (Lib.byteCells_length _) Hnew.out (Lib.byteCells_one _) (by omega) ?_)
      intro v' w7 hown' hgrow hnew
      go_wp2
      go_ret
      have hf2 : Fr (fun _ => False) W0 (wr.setCell ⟨W0.heap.size, i, none⟩ (.int .u8 (48 + (q : Int)))) := hfr.setCell (p := ⟨W0.heap.size, i, none⟩) (Or.inr (Nat.le_refl _)) _
      refine ⟨v', rfl, ?_, ?_, ?_⟩
      · have e1 : n + (Lib.itoa (-(u : Int))).length = n + 1 + (Lib.decDigits u).length := by rw [Lib.itoa_neg u hu1]; simp; omega
        have e2 : xs ++ Lib.byteCells (Lib.itoa (-(u : Int))) = xs ++ Value.int .u8 45 :: Lib.byteCells (Lib.decDigits u) := by rw [Lib.itoa_neg u hu1]; simp [Lib.byteCells]
        rw [e1, e2]
        exact hown'
      · refine hnew1.trans (w1 := W0) ?_ hfr1.size
        rcases hnew with e | ⟨k, e1, e2⟩
        · exact Or.inl e
        · exact Or.inr ⟨k, e1, Nat.le_trans hf2.size e2⟩
      · exact hfr1.rows hnew1 ((hf2.mono (fun _ h => h.elim)).trans (Fr.grown hgrow) (fun k hk => Or.inl hk))

theorem appendDec (n : Nat) (v : Int) (hv : i64 v) (sv : Value) (xs : List Value) (w : World) (hown : w.ownsRow 0 5 1 sv n xs) (hlim : n + 21 ≤ 140737488355328) :
    Calls Tryd.prog 28 #[sv, .int .i64 v] w fun e w' => ∃ v', e = .returned v' ∧ w'.ownsRow 0 5 1 v' (n + (Lib.itoa v).length) (xs ++ Lib.byteCells (Lib.itoa v)) ∧ RowNew w sv v' ∧ Fr (fun k => some k = sv.ownBlock) w w' := by
  unfold i64 at hv
  by_cases hneg : v < 0
  · obtain ⟨u, rfl⟩ : ∃ u : Nat, v = -(u : Int) := ⟨v.natAbs, by omega⟩
    exact appendDec_neg n u (by omega) (by omega) sv xs w hown hlim
  · obtain ⟨u, rfl⟩ : ∃ u : Nat, v = u := ⟨v.toNat, by omega⟩
    exact appendDec_pos n u (by omega) sv xs w hown (by omega)
end Go.Proofs.Qxb6614442aDoor
