import Derived.Test.Qxb6614442aDoorLz
import Derived.Test.Qxb6614442aDoorRead2
namespace Go.Proofs.Qxb6614442aDoor
open Go.RowKit

theorem info78 : (Tryd.prog.info? 78).map (fun i => (i.zero, i.size, i.bytes)) = some (some (.agg #[.string ⟨#[]⟩, .string ⟨#[]⟩, .int .i64 0, .string ⟨#[]⟩]), 4, 56) := by kernel_rfl

set_option maxHeartbeats 4000000 in
set_option maxRecDepth 20000 in
theorem toList (rev : Int) (qs : List Nd) (qa : Option Addr) (qc : Nat) (w : World) (hql : qs.length ≤ 1048576) (hq : ARows qa 4 (qs.map Nd.cells) w) :
    Calls Tryd.prog 11 #[.int .i64 rev, .slice qa qs.length qc] w fun e w' => ∃ qg : Nat, e = .returned (.agg #[.int .i64 rev, .slice (some ⟨qg, 0, none⟩) qs.length qs.length]) ∧ HRows qg 78 4 (qs.map Nd.cells) w' ∧ Fr (fun _ => False) w w' := by
  obtain ⟨M1, hM1, hmk1⟩ := make_rows 27 78 _ 4 56 Tryd.underlying27 info78 qs.length hql (by omega)
  have hqn : (qs.length : Int) ≤ 1048576 := by omega
  go_enter Tryd.func11, Tryd.ntmps11
  go_wp2
  have hf0 : Fr (fun _ => False) w ((w.alloc (.cells #[.int .i64 0, .slice none 0 0] 29)).alloc (.cells M1 78)) := ((Fr.refl _ w).alloc _).alloc _
  have hb0 : ((w.alloc (.cells #[.int .i64 0, .slice none 0 0] 29)).alloc (.cells M1 78)).heap[w.heap.size]? = some (.cells #[.int .i64 0, .slice none 0 0] 29 (0, 0)) := by
    rw [Below.heap_alloc _ _ _ (by simp)]; exact heap_alloc_new _ _
  have hm0 : ((w.alloc (.cells #[.int .i64 0, .slice none 0 0] 29)).alloc (.cells M1 78)).heap[w.heap.size + 1]? = some (.cells M1 78 (0, 0)) := by
    have := heap_alloc_new (w.alloc (.cells #[.int .i64 0, .slice none 0 0] 29)) (.cells M1 78)
    simpa using this
  go_loopg [6] qs.length (fun gk kv wr => ∃ k : Nat, gk + k = qs.length ∧ kv = .int .i64 (k : Int) ∧ wr.heap.size = w.heap.size + 2 ∧ Fr (fun _ => False) w wr ∧ Filled (w.heap.size + 1) 78 4 qs.length k (qs.map Nd.cells) wr ∧ wr.heap[w.heap.size]? = some (.cells #[.int .i64 0, .slice none 0 0] 29 (0, 0)))
  case atStart => exact ⟨0, by omega, rfl, by simp, hf0, ⟨M1, hm0, hM1, fun i r hi => absurd hi (by omega)⟩, hb0⟩
  case round =>
    obtain ⟨k, hk, rfl, hsz, hfr, hfil, hbx⟩ := hrel
    have Hk : Hid (gk + k = qs.length) := hk
    have Hsz := Lib.hid hsz
    clear hk hsz hf0 hb0 hm0 hmk1
    by_cases hlt : k < qs.length
    · have hqk : qs[k]? = some qs[k] := List.getElem?_eq_getElem hlt
      generalize qs[k] = q at hqk
      have hr : (qs.map Nd.cells)[k]? = some q.cells := by rw [List.getElem?_map, hqk]; rfl
      have hlti : (k : Int) < (qs.length : Int) := by omega
      have hk0 : (0 : Int) ≤ (k : Int) := by omega
      rcases hq with he | ⟨qb, qo, rfl, hqb, hc⟩
      · rw [he] at hr; simp at hr
      obtain ⟨cur, hcu, hcs, hcf⟩ := hfil
      have a0 := hfr.cell (hc k _ hr 0 _ rfl) (fun e => e)
      have a1 := hfr.cell (hc k _ hr 1 _ rfl) (fun e => e)
      have a2 := hfr.cell (hc k _ hr 2 _ rfl) (fun e => e)
      have a3 := hfr.cell (hc k _ hr 3 _ rfl) (fun e => e)
      simp only [Nat.add_zero] at a0
      obtain ⟨x0, e0⟩ : ∃ x, cur[k * 4]? = some x := ⟨_, Array.getElem?_eq_getElem (by omega)⟩
      obtain ⟨x1, e1⟩ : ∃ x, cur[k * 4 + 1]? = some x := ⟨_, Array.getElem?_eq_getElem (by omega)⟩
      obtain ⟨x2, e2⟩ : ∃ x, cur[k * 4 + 2]? = some x := ⟨_, Array.getElem?_eq_getElem (by omega)⟩
      obtain ⟨x3, e3⟩ : ∃ x, cur[k * 4 + 3]? = some x := ⟨_, Array.getElem?_eq_getElem (by omega)⟩
      have d0 : wr.cell? ⟨w.heap.size + 1, k * 4, none⟩ = some x0 := by rw [Lib.cell_of_heap hcu]; exact e0
      have d1 : wr.cell? ⟨w.heap.size + 1, k * 4 + 1, none⟩ = some x1 := by rw [Lib.cell_of_heap hcu]; exact e1
      have d2 : wr.cell? ⟨w.heap.size + 1, k * 4 + 2, none⟩ = some x2 := by rw [Lib.cell_of_heap hcu]; exact e2
      have d3 : wr.cell? ⟨w.heap.size + 1, k * 4 + 3, none⟩ = some x3 := by rw [Lib.cell_of_heap hcu]; exact e3
      have f0 := Lib.frozen_of_heap hcu (k * 4)
      have f1 := Lib.frozen_of_heap hcu (k * 4 + 1)
      have f2 := Lib.frozen_of_heap hcu (k * 4 + 2)
      have f3 := Lib.frozen_of_heap hcu (k * 4 + 3)
      have hne : ¬ qb = w.heap.size + 1 := by omega
      have hne' : ¬ w.heap.size + 1 = qb := by omega
      clear e0 e1 e2 e3 hc
      go_wp2
      go_region_held3 (fun w' => w'.cell? ⟨qb, qo + k * 4, none⟩ = some (.string q.name) ∧ w'.cell? ⟨qb, qo + k * 4 + 1, none⟩ = some (.string q.addr) ∧ w'.cell? ⟨qb, qo + k * 4 + 2, none⟩ = some (.int .i64 q.weight) ∧ w'.cell? ⟨qb, qo + k * 4 + 3, none⟩ = some (.string q.note)) (go_keep)
        (first | (go_at_call 82; fail))
      go_wp2
      go_roundg (gk - 1)
      case measure => have := Hk.out; omega
      case rel =>
        have hfp := fr_put4 wr (w.heap.size + 1) k (.string q.name) (.string q.addr) (.int .i64 q.weight) (.string q.note)
        refine ⟨k + 1, by have := Hk.out; omega, by go_num, ?_, hfr.trans hfp (fun i hi => Or.inr (by omega)), Filled.put4 ⟨cur, hcu, hcs, hcf⟩ hlt (by intro r hr'; obtain ⟨q', -, rfl⟩ := List.mem_map.1 hr'; rfl) hr, hfp.heap hbx (by omega)⟩
        simpa [World.setCell] using Hsz.out
    · have hkq : k = qs.length := by have := Hk.out; omega
      have hle : (qs.length : Int) ≤ (k : Int) := by omega
      subst hkq
      have hrq : HRows (w.heap.size + 1) 78 4 (qs.map Nd.cells) wr := by
        refine Filled.rows (n := qs.length) ?_
        rw [List.length_map]; exact hfil
      have c0 : wr.cell? ⟨w.heap.size, 0, none⟩ = some (.int .i64 0) := by rw [Lib.cell_of_heap hbx]; rfl
      have c1 : wr.cell? ⟨w.heap.size, 1, none⟩ = some (.slice none 0 0) := by rw [Lib.cell_of_heap hbx]; rfl
      have f0 := Lib.frozen_of_heap hbx 0
      have f1 := Lib.frozen_of_heap hbx 1
      clear hfil
      go_wp2
      have hf3 : Fr (fun i => i = w.heap.size) wr ((wr.setCell ⟨w.heap.size, 0, none⟩ (.int .i64 rev)).setCell ⟨w.heap.size, 1, none⟩ (.slice (some ⟨w.heap.size + 1, 0, none⟩) qs.length qs.length)) :=
        ((Fr.refl (fun i => i = w.heap.size) wr).setCell (p := ⟨w.heap.size, 0, none⟩) (Or.inl rfl) _).setCell (p := ⟨w.heap.size, 1, none⟩) (Or.inl rfl) _
      refine bodyPost_ret (v := .agg #[.int .i64 rev, .slice (some ⟨w.heap.size + 1, 0, none⟩) qs.length qs.length]) (by simp [results, Tryd.results11, go_sem, c0, c1]) rfl ?_
      exact ⟨w.heap.size + 1, rfl, hf3.rows_kept hrq (by omega), hfr.trans hf3 (fun i hi => Or.inr (by omega))⟩

theorem setProto (s : St) (l : List UInt8) (p : Int) (w : World) (h : s.Is l w) :
    Calls Tryd.prog 34 #[.pointer (some ⟨s.rw, 0, none⟩), .int .i64 p] w fun e w' => e = .returned (.tuple #[]) ∧ s.Is l w' ∧ Fr s.S w w' := by
  obtain ⟨pr, hrw⟩ := h.hrw
  have c2 : w.cell? ⟨s.rw, 2, none⟩ = some (.int .i64 pr) := by rw [Lib.cell_of_heap hrw]; rfl
  have f2 := Lib.frozen_of_heap hrw 2
  have H := Lib.hid h
  clear h
  go_enter Tryd.func34, Tryd.ntmps34
  go_wp2
  go_end0
  have hf : Fr (fun k => k = s.rw) w (w.setCell ⟨s.rw, 2, none⟩ (.int .i64 p)) := (Fr.refl (fun k => k = s.rw) w).setCell (p := ⟨s.rw, 2, none⟩) (Or.inl rfl) _
  refine ⟨rfl, ?_, hf.mono (fun k hk => Or.inl hk)⟩
  have hI := H.out
  obtain ⟨l1, l2, hl, hB⟩ := hI.hB
  obtain ⟨n, xs, hown⟩ := hI.hown
  refine ⟨⟨p, ?_⟩, ⟨l1, l2, hl, ?_⟩, ⟨n, xs, hf.owns hown ?_⟩, hI.hnf, hI.hnb, hI.tab.fr hf ?_, hI.lo⟩
  · have := Lib.heap_setCell_same (i := 2) hrw (.int .i64 p)
    simpa using this
  · refine hB.kept hf ?_
    obtain ⟨cur, q1, -, -⟩ := hB.hfb
    obtain ⟨⟨lr, p1⟩, p2, -⟩ := hB.hbb
    rintro k (rfl | rfl | rfl | e) e2
    · exact tag_ne hB.hbw hrw (by decide) e2
    · exact tag_ne p1 hrw (by decide) e2
    · exact tag_ne q1 hrw (by decide) e2
    · obtain ⟨cur2, hc⟩ := own_tag p2 e.symm
      exact tag_ne hc hrw (by decide) e2
  · intro k hk e
    obtain ⟨cur, hc⟩ := own_tag hown hk
    exact tag_ne hc hrw (by decide) e
  · have := hI.lo s.rw (Or.inl rfl)
    omega

end Go.Proofs.Qxb6614442aDoor
