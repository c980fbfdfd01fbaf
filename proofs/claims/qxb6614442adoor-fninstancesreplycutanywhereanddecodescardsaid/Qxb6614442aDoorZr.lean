import Derived.Test.Qxb6614442aDoorElems
namespace Go.Proofs.Qxb6614442aDoor
open Go.RowKit

theorem Fr.rows_kept {S : Nat → Prop} {w w' : World} (f : Fr S w w') {b : Nat} {t : TypeId} {z : Nat} {xs : List (List Value)} (h : HRows b t z xs w) (hn : ¬ S b) : HRows b t z xs w' := by
  obtain ⟨cur, q1, q2⟩ := h
  exact ⟨cur, f.heap q1 hn, q2⟩

set_option maxHeartbeats 1000000 in
set_option maxRecDepth 20000 in
theorem zzRoute (rev : Int) (qs : List Qd) (bl : List Bm) (qg qc bg bc : Nat) (w : World) (htab : Tab w) (hrev : i64 rev) (hql : qs.length ≤ 1048576) 
    (hq : HRows qg 86 4 (qs.map Qd.cells) w) (hqi : ∀ q ∈ qs, i64 q.read ∧ i64 q.write ∧ i64 q.perm)
    (hbl : bl.length ≤ 1048576) (hb : HRows bg 90 3 (bl.map Bm.cells) w) (hml : ∀ m ∈ bl, m.d.mems.length ≤ 1048576 ∧ (∀ x ∈ m.d.mems, i64 x.id) ∧ HRows m.mg 88 2 (m.d.mems.map Md.cells) w)
    (htot : (encRoute rev qs (bl.map Bm.d)).length + 1000 ≤ 1073741824) :
    Calls Tryd.prog 24 #[.agg #[.int .i64 rev, .slice (some ⟨qg, 0, none⟩) qs.length qc, .slice (some ⟨bg, 0, none⟩) bl.length bc]] w fun e w' => ∃ r, e = .returned r ∧ w'.ownsRow 0 5 1 r (encRoute rev qs (bl.map Bm.d)).length (Lib.byteCells (encRoute rev qs (bl.map Bm.d))) ∧ Fr (fun _ => False) w w' := by
  have henc : encRoute rev qs (bl.map Bm.d) = [] ++ num 58 rev ++ num 42 qs.length ++ encAll Qd.enc qs ++ num 42 bl.length ++ encAll Bd.enc (bl.map Bm.d) := by simp [encRoute]
  have hb1 : ((w.alloc (.cells #[.int .i64 rev, .slice (some ⟨qg, 0, none⟩) qs.length qc, .slice (some ⟨bg, 0, none⟩) bl.length bc] 48)).alloc (.cells #[.slice none 0 0, .int .i64 0, .int .i8 0] 67)).heap[w.heap.size + 1]? = some (.cells #[.slice none 0 0, .int .i64 0, .int .i8 0] 67 (0, 0)) := by
    have := heap_alloc_new (w.alloc (.cells #[.int .i64 rev, .slice (some ⟨qg, 0, none⟩) qs.length qc, .slice (some ⟨bg, 0, none⟩) bl.length bc] 48)) (.cells #[.slice none 0 0, .int .i64 0, .int .i8 0] 67)
    simpa using this
  have hf1 : Fr (fun _ => False) w ((w.alloc (.cells #[.int .i64 rev, .slice (some ⟨qg, 0, none⟩) qs.length qc, .slice (some ⟨bg, 0, none⟩) bl.length bc] 48)).alloc (.cells #[.slice none 0 0, .int .i64 0, .int .i8 0] 67)) := ((Fr.refl _ w).alloc _).alloc _
  have hlt := htab.lt
  have h1 := newWriter (w.heap.size + 1) 0 _ hb1 (htab.fr hf1 (fun h => h)) (by omega)
  have hbox : ((w.alloc (.cells #[.int .i64 rev, .slice (some ⟨qg, 0, none⟩) qs.length qc, .slice (some ⟨bg, 0, none⟩) bl.length bc] 48)).alloc (.cells #[.slice none 0 0, .int .i64 0, .int .i8 0] 67)).heap[w.heap.size]? = some (.cells #[.int .i64 rev, .slice (some ⟨qg, 0, none⟩) qs.length qc, .slice (some ⟨bg, 0, none⟩) bl.length bc] 48 (0, 0)) := by
    rw [Below.heap_alloc _ _ _ (by simp)]; exact heap_alloc_new _ _
  have hsz : ((w.alloc (.cells #[.int .i64 rev, .slice (some ⟨qg, 0, none⟩) qs.length qc, .slice (some ⟨bg, 0, none⟩) bl.length bc] 48)).alloc (.cells #[.slice none 0 0, .int .i64 0, .int .i8 0] 67)).heap.size = w.heap.size + 2 := by simp
  go_enter Tryd.func24, Tryd.ntmps24
  go_wp2_with (go_at_call 30; refine h1.mono ?_; rintro e w1 ⟨s, rfl, hsb, hI, hS, hfw⟩; refine Hid.out ?_)
  refine Lib.hid ?_
  have hf2 := hf1.trans hfw (fun _ e => e.elim)
  have hbox1 := hfw.heap hbox (fun e => e)
  have hS' : ∀ k, s.S k → w.heap.size + 1 ≤ k := fun k hk => by rcases hS k hk with e | e <;> omega
  have Hsb := Lib.hid hsb
  clear h1 hbox hf1 hfw hb1 hS hsz hsb
  have c0 : w1.cell? ⟨w.heap.size, 0, none⟩ = some (.int .i64 rev) := by rw [Lib.cell_of_heap hbox1]; rfl
  have c1 : w1.cell? ⟨w.heap.size, 1, none⟩ = some (.slice (some ⟨qg, 0, none⟩) qs.length qc) := by rw [Lib.cell_of_heap hbox1]; rfl
  have c2 : w1.cell? ⟨w.heap.size, 2, none⟩ = some (.slice (some ⟨bg, 0, none⟩) bl.length bc) := by rw [Lib.cell_of_heap hbox1]; rfl
  have h2 := writeElems s [] rev qs bl qg qc bg bc w1 hI hrev hql (hf2.rows_kept hq (fun e => e)) hqi hbl (hf2.rows_kept hb (fun e => e)) (fun m hm => ⟨(hml m hm).1, (hml m hm).2.1, hf2.rows_kept (hml m hm).2.2 (fun e => e)⟩) (by rw [← henc]; exact htot)
  rw [← henc] at h2
  have Hml := Lib.hid hml
  have Hhenc := Lib.hid henc
  clear hml henc hq hb hqi
  go_wp2_with (go_at_call 36; refine h2.mono ?_; rintro e w2 ⟨rfl, s2, hn2, hI2, hf3⟩; refine Hid.out ?_)
  refine Lib.hid ?_
  clear h2 c0 c1 c2 hbox1
  have h3 := rflush s2 _ w2 hI2 (by omega)
  rw [hn2.1] at h3
  go_wp2_with (go_at_call 32; refine h3.mono ?_; rintro e w3 ⟨rfl, v, hbf, hf4⟩; refine Hid.out ?_)
  refine Lib.hid ?_
  rw [hn2.2.2.1, Hsb.out] at hbf
  have h4 := bytes_of (w.heap.size + 1) v _ w3 hbf
  clear h3
  go_wp2_with (go_at_call 33; refine h4.mono ?_; rintro e w4 ⟨r, rfl, hown, n, rfl⟩; refine Hid.out ?_)
  refine Lib.hid ?_
  rcases hown.2 with ⟨rfl, h0⟩ | ⟨g, cap, cur, rfl, -, -, -, -, -, -⟩
  · clear h4
    go_wp2
    go_ret
    refine ⟨_, rfl, hown, ?_⟩
    exact (hf2.trans (hn2.fr hf3 hf4) (fun k hk => Or.inr (by have := hS' k hk; omega))).drewN _
  · clear h4
    go_wp2
    go_ret
    refine ⟨_, rfl, hown, ?_⟩
    exact (hf2.trans (hn2.fr hf3 hf4) (fun k hk => Or.inr (by have := hS' k hk; omega))).drewN _

set_option maxHeartbeats 400000 in
theorem zzElems (a b c : Value) (w : World) (_ha : a.oneCell' = true) (_hb : b.oneCell' = true) (_hc : c.oneCell' = true) :
    Calls Tryd.prog 25 #[.agg #[a, b, c]] w fun e w' => e = .returned (.int .i64 3) ∧ Fr (fun _ => False) w w' := by
  go_enter Tryd.func25, Tryd.ntmps25
  go_wp2
  go_ret
  exact ⟨rfl, ((Fr.refl _ w).alloc _).alloc _⟩
end Go.Proofs.Qxb6614442aDoor
