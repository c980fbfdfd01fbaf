import Derived.Test.Qxb6614442aDoorBw
import Derived.Deep.LoopGhost
namespace Go.Proofs.Qxb6614442aDoor
open Go.RowKit

/-- Bytes q have been laid behind what waits, and counted. -/
theorem Bw.put {bw fb bb : Nat} {bufv : Value} {l1 l2 : List UInt8} {W0 : World} {cur : Array Value} (hB : Bw bw fb bb bufv l1 l2 W0) (hf : W0.heap[fb]? = some (.cells cur 5 (0, 0))) (hcs : cur.size = 4096)
    (q : List UInt8) (m d : Nat) (hm : q.length = m) (hfit : l2.length + m ≤ 4096) (hd : d = l2.length + m) :
    Bw bw fb bb bufv l1 (l2 ++ q) ((W0.drew.setRow fb (Lib.byteCells l2 ++ (Lib.byteCells q ++ cur.toList.drop d)).toArray).setCell ⟨bw, 2, none⟩ (.int .i64 ((l2.length : Int) + (m : Int)))) ∧
    Fr (fun k => k = bw ∨ k = fb) W0 ((W0.drew.setRow fb (Lib.byteCells l2 ++ (Lib.byteCells q ++ cur.toList.drop d)).toArray).setCell ⟨bw, 2, none⟩ (.int .i64 ((l2.length : Int) + (m : Int)))) := by
  have hbf : bw ≠ fb := tag_ne hB.hbw hf (by decide)
  obtain ⟨⟨lr, p1⟩, p2, p3⟩ := hB.hbb
  have hbb : bb ≠ fb := tag_ne p1 hf (by decide)
  have hbw : bb ≠ bw := tag_ne p1 hB.hbw (by decide)
  have hrow : ∀ k, bufv.ownBlock = some k → ¬ (k = bw ∨ k = fb) := by
    rintro k hk (rfl | rfl)
    · obtain ⟨c, hc⟩ := own_tag p2 hk; exact tag_ne hc hB.hbw (by decide) rfl
    · exact hB.hne hk
  have hfr : Fr (fun k => k = bw ∨ k = fb) W0 ((W0.drew.setRow fb (Lib.byteCells l2 ++ (Lib.byteCells q ++ cur.toList.drop d)).toArray).setCell ⟨bw, 2, none⟩ (.int .i64 ((l2.length : Int) + (m : Int)))) :=
    (((Fr.refl (fun k => k = bw ∨ k = fb) W0).drew).setRow (g := fb) (Or.inl (Or.inr rfl)) _).setCell (p := ⟨bw, 2, none⟩) (Or.inl (Or.inl rfl)) _
  have e : (((l2 ++ q).length : Nat) : Int) = (l2.length : Int) + (m : Int) := by rw [List.length_append, hm]; omega
  have hlen : cur.toList.length = 4096 := by rw [Array.length_toList]; exact hcs
  refine ⟨⟨?_, ⟨(Lib.byteCells l2 ++ (Lib.byteCells q ++ cur.toList.drop d)).toArray, ?_, ?_, ?_⟩, ?_, ⟨⟨lr, hfr.heap p1 ?_⟩, hfr.owns p2 hrow, p3⟩, hB.hne⟩, hfr⟩
  · rw [e]
    exact Lib.heap_setCell_same (i := 2) (show (W0.drew.setRow fb _).heap[bw]? = _ from (setRow_other _ _ _ _ hbf).trans hB.hbw) _
  · rw [Below.heap_setCell _ _ _ _ (Ne.symm hbf)]
    exact setRow_heap W0.drew fb cur _ 5 (0, 0) hf
  · rw [List.size_toArray, List.length_append, List.length_append, Lib.byteCells_length, Lib.byteCells_length, List.length_drop, hlen]; omega
  · rw [List.toList_toArray, ← List.append_assoc, ← Lib.byteCells_append, ← Lib.byteCells_length (l2 ++ q), List.take_left']
    rfl
  · rw [List.length_append, hm]; exact hfit
  · rintro (h | h)
    · exact hbw h
    · exact hbb h

theorem Bw.same {bw fb bb : Nat} {bufv : Value} {l1 l2 : List UInt8} {W0 : World} (hB : Bw bw fb bb bufv l1 l2 W0) :
    Bw bw fb bb bufv l1 l2 (W0.setCell ⟨bw, 2, none⟩ (.int .i64 (l2.length : Int))).drew ∧ Fr (fun k => k = bw) W0 (W0.setCell ⟨bw, 2, none⟩ (.int .i64 (l2.length : Int))).drew := by
  obtain ⟨cur, hf, hcs, htk⟩ := hB.hfb
  obtain ⟨⟨lr, p1⟩, p2, p3⟩ := hB.hbb
  have hfr : Fr (fun k => k = bw) W0 (W0.setCell ⟨bw, 2, none⟩ (.int .i64 (l2.length : Int))).drew := ((Fr.refl (fun k => k = bw) W0).setCell (p := ⟨bw, 2, none⟩) (Or.inl rfl) _).drew
  refine ⟨⟨Lib.heap_setCell_same (i := 2) hB.hbw _, ⟨cur, hfr.heap hf (tag_ne hf hB.hbw (by decide)), hcs, htk⟩, hB.hle, ⟨⟨lr, hfr.heap p1 (tag_ne p1 hB.hbw (by decide))⟩, hfr.owns p2 ?_, p3⟩, hB.hne⟩, hfr⟩
  intro k hk e
  obtain ⟨c, hc⟩ := own_tag p2 hk
  exact tag_ne hc hB.hbw (by decide) e

set_option maxHeartbeats 1000000 in
theorem bw_Write (bw fb bb : Nat) (bufv : Value) (l1 l2 p : List UInt8) (g cap : Nat) (w : World) (h : Bw bw fb bb bufv l1 l2 w) (hcap : p.length ≤ cap) (_hcapm : cap ≤ maxLen)
    (hp : p.length ≤ 4096) (hp1 : 1 ≤ p.length) (hsrc : ∀ j x, (Lib.byteCells p)[j]? = some x → w.cell? ⟨g, j, none⟩ = some x) (hg : ¬ Bw.S bw bb fb bufv g) (hlim : l1.length + l2.length + p.length ≤ 140737488355328) :
    Calls Tryd.prog 47 #[.pointer (some ⟨bw, 0, none⟩), .slice (some ⟨g, 0, none⟩) p.length cap] w fun e w' => e = .returned (.tuple #[.int .i64 p.length, .nilIface]) ∧ 
      ∃ bufv' l1' l2', l1' ++ l2' = l1 ++ l2 ++ p ∧ Bw bw fb bb bufv' l1' l2' w' ∧ RowNew w bufv bufv' ∧ Fr (Bw.S bw bb fb bufv) w w' := by
  go_enter Tryd.func47, Tryd.ntmps47
  go_wp2
  go_loopg [1, 4] 1 (fun k pv nn wr => ∃ j bufv' l1' l2', j < p.length ∧ (k = 1 ∨ l2' = []) ∧ pv = .slice (some ⟨g, j, none⟩) (p.length - j) (cap - j) ∧ nn = .int .i64 (j : Int) ∧ Bw bw fb bb bufv' l1' l2' wr ∧ l1' ++ l2' = l1 ++ l2 ++ p.take j ∧ RowNew w bufv bufv' ∧ Fr (Bw.S bw bb fb bufv) w wr)
  case atStart => exact ⟨0, bufv, l1, l2, hp1, Or.inl rfl, rfl, rfl, h, by simp, Or.inl rfl, Fr.refl _ _⟩
  case round =>
    obtain ⟨j, bufv', l1', l2', hj, hk, rfl, rfl, hB, hl, hnew, hfr⟩ := hrel
    have hle := hB.hle
    have c0 := hB.c0; have c1 := hB.c1; have c2 := hB.c2; 
    have Hl : Hid (l1' ++ l2' = l1 ++ l2 ++ p.take j) := hl
    clear hl h
    by_cases hfit : p.length - j ≤ 4096 - l2'.length
    · have ht : ¬ ((4096 : Int) - (l2'.length : Int) < ((p.length - j : Nat) : Int)) := by omega
      have ht2 : decide ((4096 : Int) - (l2'.length : Int) < ((p.length - j : Nat) : Int)) = false := by simp; omega
      obtain ⟨cur, hf, hcs, htk⟩ := hB.hfb
      go_wp2_with (go_at_call 48; refine (available bw fb bb bufv' l1' l2' wr hB).mono ?_; rintro e w' ⟨rfl, n, rfl⟩)
      have hlt : (l2'.length : Int) < 4096 := by omega
      have hlt0 : (0 : Int) ≤ (l2'.length : Int) := by omega
      have hsl := slice_l0 fb 4096 4096 l2'.length (by omega) (by omega)
      have hrl : (p.drop j).length = p.length - j := by simp
      have hm : (Lib.byteCells (p.drop j)).length = p.length - j := by rw [Lib.byteCells_length, hrl]
      have hsrcj : ∀ (W : World), W.heap = wr.heap → ∀ i x, (Lib.byteCells (p.drop j))[i]? = some x → W.cell? ((⟨g, j, none⟩ : Addr).add i) = some x := by
        intro W hW i x hx
        rw [Lib.addr_add]
        have h1 := hsrc (j + i) x (by rw [← hx]; unfold Lib.byteCells; rw [List.map_drop, List.getElem?_drop])
        have h2 := hfr.cell h1 hg
        rw [← h2]; unfold World.cell?; rw [hW]
      have hcp : ∀ (W : World), W.heap = wr.heap → (Builtin.copy_ #[25, 25] 3 #[.slice (some ⟨fb, l2'.length, none⟩) (4096 - l2'.length) (4096 - l2'.length), .slice (some ⟨g, j, none⟩) (p.length - j) (cap - j)]).run Tryd.prog W = .ok (goInt (p.length - j : Nat)) (W.setRow fb (cur.toList.take l2'.length ++ Lib.byteCells (p.drop j) ++ cur.toList.drop (l2'.length + (p.length - j))).toArray) := by
        intro W hW
        have := run_copy_row (P := Tryd.prog) W 25 25 3 5 fb l2'.length (4096 - l2'.length) (4096 - l2'.length) ⟨g, j, none⟩ (p.length - j) (cap - j) cur 5 (Lib.byteCells (p.drop j)) Tryd.underlying25 infoSize (by rw [hW]; exact hf) (by rw [hm]; exact (Nat.min_eq_left hfit).symm) (hsrcj W hW) (by rw [hm]; omega) (Lib.byteCells_one _)
        rw [hm] at this
        exact this
      have hcp1 := hcp (wr.drewN n).drew rfl
      have hB0 := hB.drewN n
      have hfr0 := hfr.drewN n
      have hf0 : (wr.drewN n).heap[fb]? = some (.cells cur 5 (0, 0)) := hf
      clear hcp hsrcj hB hfr c0 c1 c2 hf
      generalize wr.drewN n = W0 at *
      have c1 := hB0.c1; have c2 := hB0.c2
      have hfbw : bw ≠ fb := tag_ne hB0.hbw hf0 (by decide)
      have hst : ∀ cs, Fr (fun k => k = fb) W0 (W0.drew.setRow fb cs) := fun cs => ((Fr.refl (fun k => k = fb) W0).drew).setRow (Or.inl rfl) cs
      have d1 : ∀ cs, (W0.drew.setRow fb cs).cell? ⟨bw, 1, none⟩ = some (.slice (some ⟨fb, 0, none⟩) 4096 4096) := fun cs => (hst cs).cell c1 hfbw
      have d2 : ∀ cs, (W0.drew.setRow fb cs).cell? ⟨bw, 2, none⟩ = some (.int .i64 (l2'.length : Int)) := fun cs => (hst cs).cell c2 hfbw
      have e2 : ∀ cs, (W0.drew.setRow fb cs).frozen? ⟨bw, 2, none⟩ = false := fun cs => Lib.frozen_of_heap ((hst cs).heap hB0.hbw hfbw) 2
      go_region_held3 (fun w' => w'.cell? ⟨bw, 1, none⟩ = some (.slice (some ⟨fb, 0, none⟩) 4096 4096) ∧ w'.cell? ⟨bw, 2, none⟩ = some (.int .i64 (l2'.length : Int))) (go_keep)
        (first | (go_at_call 82; fail))
      go_wp2
      go_ret2
      obtain ⟨hB1, hfr1⟩ := hB0.put hf0 hcs (p.drop j) (p.length - j) _ hrl (by omega) rfl
      have hfin : ∀ x : Int, x = (p.length : Int) → Ending.returned (.tuple #[.int .i64 x, .nilIface]) = .returned (.tuple #[.int .i64 p.length, .nilIface]) := by rintro x rfl; rfl
      refine ⟨hfin _ (by omega), bufv', l1', l2' ++ p.drop j, ?_, hB1, hnew, hfr0.trans hfr1 ?_⟩
      · rw [← List.append_assoc, Hl.out, List.append_assoc _ (p.take j), List.take_append_drop]
      · rintro k (rfl | rfl)
        · exact Or.inl (Or.inl rfl)
        · exact Or.inl (Or.inr (Or.inr (Or.inl rfl)))
    · have hne2 : l2' ≠ [] := by rintro rfl; simp at hfit; omega
      have HK : Hid (gk = 1) := hk.elim id (fun e => absurd e hne2)
      clear hk
      have hpos : 1 ≤ l2'.length := List.length_pos_iff.2 hne2
      have ht : (4096 : Int) - (l2'.length : Int) < ((p.length - j : Nat) : Int) := by omega
      have hb0 : ((l2'.length : Int) == 0) = false := by rw [beq_eq_false_iff_ne]; omega
      have hlim' : l1'.length + 4096 ≤ 140737488355328 := by
        have := congrArg List.length Hl.out
        simp only [List.length_append, List.length_take] at this
        omega
      obtain ⟨cur, hf, hcs, htk⟩ := hB.hfb
      by_cases hful : l2'.length = 4096
      · have Hf : Hid (l2'.length = 4096) := hful
        have hge : (4096 : Int) ≤ (l2'.length : Int) := by omega
        have hlt0 : (l2'.length : Int) ≤ 4096 := by omega
        have hsl := slice_full fb 0 4096 l2'.length hful
        clear hful
        have hcp := fun W => run_copy_none (P := Tryd.prog) W 25 25 3 5 (some ⟨fb, 0, none⟩) (some ⟨g, j, none⟩) 0 0 (p.length - j) (cap - j) Tryd.underlying25 infoSize (by simp)
        go_wp2_with (first
          | (go_at_call 48; refine (available bw fb bb bufv' l1' l2' wr hB).mono ?_; rintro e w' ⟨rfl, n, rfl⟩)
          | (go_at_call 49; refine (buffered bw fb bb bufv' l1' l2' _ (hB.drewN _)).mono ?_; rintro e w' ⟨rfl, rfl⟩))
        have hB0 := hB.drewN n
        have hfr0 := hfr.drewN n
        clear hB hfr c0 c1 c2 hf
        generalize wr.drewN n = W0 at *
        have c1 := hB0.c1; have c2 := hB0.c2; have f2 := hB0.f 2
        go_region_held3 (fun w' => w'.cell? ⟨bw, 1, none⟩ = some (.slice (some ⟨fb, 0, none⟩) 4096 4096) ∧ w'.cell? ⟨bw, 2, none⟩ = some (.int .i64 (l2'.length : Int))) (go_keep)
          (first | (go_at_call 82; fail))
        obtain ⟨hB1, hfr1⟩ := hB0.same
        have hfl := flush bw fb bb bufv' l1' _ _ hB1 hne2 (by have := Hf.out; omega)
        go_wp2_with (go_at_call 40; refine hfl.mono ?_; rintro e W2 ⟨rfl, bufv2, hB2, hnew2, hfr2⟩; refine Hid.out ?_)
        refine Lib.hid ?_
        clear hfl hB1 hcp c1 c2 f2
        go_wp2
        go_roundg 0
        case measure => rw [HK.out]; omega
        case rel =>
          refine ⟨j, bufv2, _, [], hj, Or.inr rfl, rfl, rfl, hB2, by rw [List.append_nil]; exact Hl.out, ?_, ?_⟩
          · exact hnew.trans (orMap hnew2 (fun ⟨k, q1, q2⟩ => ⟨k, q1, Nat.le_trans hfr1.size q2⟩)) hfr0.size
          · refine (hfr0.trans hfr1 ?_).trans hfr2 ?_
            · rintro k rfl
              exact Or.inl (Or.inl rfl)
            · rintro k (rfl | rfl | hk)
              · exact Or.inl (Or.inl rfl)
              · exact Or.inl (Or.inr (Or.inl rfl))
              · rcases hnew with e | ⟨k', e, hk'⟩
                · exact Or.inl (Or.inr (Or.inr (Or.inr (by rw [← e]; exact hk))))
                · rw [e] at hk; cases hk; exact Or.inr hk'
      · have hm : (Lib.byteCells ((p.drop j).take (4096 - l2'.length))).length = 4096 - l2'.length := by rw [Lib.byteCells_length]; simp; omega
        have hrl : ((p.drop j).take (4096 - l2'.length)).length = 4096 - l2'.length := by simp; omega
        have hsl := slice_l0 fb 4096 4096 l2'.length (by omega) (by omega)
        have hsl2 := slice_l g j (p.length - j) (cap - j) (4096 - l2'.length) (by omega) (by omega)
        have hcp : ∀ (W : World), W.heap = wr.heap → (Builtin.copy_ #[25, 25] 3 #[.slice (some ⟨fb, l2'.length, none⟩) (4096 - l2'.length) (4096 - l2'.length), .slice (some ⟨g, j, none⟩) (p.length - j) (cap - j)]).run Tryd.prog W = .ok (goInt (4096 - l2'.length : Nat)) (W.setRow fb (cur.toList.take l2'.length ++ Lib.byteCells ((p.drop j).take (4096 - l2'.length)) ++ cur.toList.drop (l2'.length + (4096 - l2'.length))).toArray) := by
          intro W hW
          have := run_copy_row (P := Tryd.prog) W 25 25 3 5 fb l2'.length (4096 - l2'.length) (4096 - l2'.length) ⟨g, j, none⟩ (p.length - j) (cap - j) cur 5 (Lib.byteCells ((p.drop j).take (4096 - l2'.length))) Tryd.underlying25 infoSize (by rw [hW]; exact hf) (by rw [hm]; exact (Nat.min_eq_right (by omega)).symm) ?_ (by rw [hm]; omega) (Lib.byteCells_one _)
          · rw [hm] at this
            exact this
          · intro i x hx
            rw [Lib.addr_add]
            have hil : i < 4096 - l2'.length := by have := (List.getElem?_eq_some_iff.1 hx).1; omega
            have h1 := hsrc (j + i) x (by rw [← hx]; unfold Lib.byteCells; rw [List.map_take, List.map_drop, List.getElem?_take, if_pos hil, List.getElem?_drop])
            have h2 := hfr.cell h1 hg
            rw [← h2]; unfold World.cell?; rw [hW]
        go_wp2_with (first
          | (go_at_call 48; refine (available bw fb bb bufv' l1' l2' wr hB).mono ?_; rintro e w' ⟨rfl, n, rfl⟩)
          | (go_at_call 49; refine (buffered bw fb bb bufv' l1' l2' _ (hB.drewN _)).mono ?_; rintro e w' ⟨rfl, rfl⟩))
        have hcp1 := hcp (wr.drewN n).drew rfl
        have hB0 := hB.drewN n
        have hfr0 := hfr.drewN n
        have hf0 : (wr.drewN n).heap[fb]? = some (.cells cur 5 (0, 0)) := hf
        clear hcp hB hfr c0 c1 c2 hf
        generalize wr.drewN n = W0 at *
        have c1 := hB0.c1; have c2 := hB0.c2
        have hfbw : bw ≠ fb := tag_ne hB0.hbw hf0 (by decide)
        have hst : ∀ cs, Fr (fun k => k = fb) W0 (W0.drew.setRow fb cs) := fun cs => ((Fr.refl (fun k => k = fb) W0).drew).setRow (Or.inl rfl) cs
        have d1 : ∀ cs, (W0.drew.setRow fb cs).cell? ⟨bw, 1, none⟩ = some (.slice (some ⟨fb, 0, none⟩) 4096 4096) := fun cs => (hst cs).cell c1 hfbw
        have d2 : ∀ cs, (W0.drew.setRow fb cs).cell? ⟨bw, 2, none⟩ = some (.int .i64 (l2'.length : Int)) := fun cs => (hst cs).cell c2 hfbw
        have e2 : ∀ cs, (W0.drew.setRow fb cs).frozen? ⟨bw, 2, none⟩ = false := fun cs => Lib.frozen_of_heap ((hst cs).heap hB0.hbw hfbw) 2
        have hlt : (l2'.length : Int) < 4096 := by omega
        have hlt0 : (0 : Int) ≤ (l2'.length : Int) := by omega
        obtain ⟨hB1, hfr1⟩ := hB0.put hf0 hcs _ (4096 - l2'.length) 4096 hrl (by omega) (by omega)
        have hfl := flush bw fb bb bufv' l1' _ _ hB1 (by intro e; have := congrArg List.length e; simp at this; omega) (by rw [List.length_append, hrl]; omega)
        go_region_held3 (fun w' => w'.cell? ⟨bw, 1, none⟩ = some (.slice (some ⟨fb, 0, none⟩) 4096 4096) ∧ w'.cell? ⟨bw, 2, none⟩ = some (.int .i64 (l2'.length : Int))) (go_keep)
          (first | (go_at_call 82; fail))
        go_wp2_with (go_at_call 40; refine hfl.mono ?_; rintro e W2 ⟨rfl, bufv2, hB2, hnew2, hfr2⟩; refine Hid.out ?_)
        refine Lib.hid ?_
        clear hfl hB1 hcp1 d1 d2 e2 c1 c2 hst
        go_wp2
        go_roundg 0
        case measure => rw [HK.out]; omega
        case rel =>
          have hsum : j + (4096 - l2'.length) < p.length := by omega
          refine ⟨j + (4096 - l2'.length), bufv2, _, [], hsum, Or.inr rfl, by rw [Nat.sub_add_eq, Nat.sub_add_eq], by go_num, hB2, ?_, ?_, ?_⟩
          · rw [List.append_nil, ← List.append_assoc, Hl.out, List.append_assoc _ (p.take j), ← List.take_add]
          · exact hnew.trans (orMap hnew2 (fun ⟨k, q1, q2⟩ => ⟨k, q1, Nat.le_trans hfr1.size q2⟩)) hfr0.size
          · refine (hfr0.trans hfr1 ?_).trans hfr2 ?_
            · rintro k (rfl | rfl)
              · exact Or.inl (Or.inl rfl)
              · exact Or.inl (Or.inr (Or.inr (Or.inl rfl)))
            · rintro k (rfl | rfl | hk)
              · exact Or.inl (Or.inl rfl)
              · exact Or.inl (Or.inr (Or.inl rfl))
              · rcases hnew with e | ⟨k', e, hk'⟩
                · exact Or.inl (Or.inr (Or.inr (Or.inr (by rw [← e]; exact hk))))
                · rw [e] at hk; cases hk; exact Or.inr hk'
end Go.Proofs.Qxb6614442aDoor
