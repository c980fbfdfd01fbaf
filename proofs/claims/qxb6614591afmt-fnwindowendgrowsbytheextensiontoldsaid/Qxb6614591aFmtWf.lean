import Derived.Test.Qxb6614591aFmtWe
namespace Go.Proofs.Qxb6614591aFmt
open Go.RowKit Go.Extern.Stop Go.Stop Go.Extern

def EndMoved (n : Nat) (x d : Int) (w : World) (e : Ending) (w' : World) : Prop :=
  ∃ (s : ByteArray) (m : Nat) (y : Int), e = .returned (.agg #[.string s, .int .u64 (m : Int), .int .i64 y, .pointer none]) ∧ m < 1000000000 ∧ y * 1000000000 + m = x * 1000000000 + n + d ∧ Below w.heap.size w w'

set_option maxHeartbeats 800000 in
set_option maxRecDepth 20000 in
theorem windowEnd1 (F : Interp) (b wb eb : Nat) (n : Nat) (x d : Int) (w : World) (hF : F.answers w.tape) (hAB : (sprA F).size + (sprB F).size ≤ 9223372036854775807)
    (hb : b < w.heap.size) (hwb : wb < w.heap.size)
    (c23 : w.cell? ⟨b, 23, none⟩ = some (.pointer (some ⟨wb, 0, none⟩))) (c25 : w.cell? ⟨b, 25, none⟩ = some (.pointer (some ⟨eb, 0, none⟩))) (heb : eb < w.heap.size) (c0 : w.cell? ⟨eb, 0, none⟩ = some (.int .i64 d))
    (hn : n < 1000000000) (hx : -90000000000 ≤ x ∧ x ≤ 90000000000) (hd : -9223372036854775808 ≤ d ∧ d ≤ 9223372036854775807)
    (t0 : w.cell? ⟨wb, 3, none⟩ = some (.int .u64 (n : Int))) (t1 : w.cell? ⟨wb, 4, none⟩ = some (.int .i64 x)) (t2 : w.cell? ⟨wb, 5, none⟩ = some (.pointer none)) :
    Calls Tryf.prog 31 #[.pointer (some ⟨b, 0, none⟩)] w (EndMoved n x d w) := by
  have hA1 := run_sprA F (w.heap.size + 1) ((w.alloc (.cells #[.string ⟨#[]⟩, .int .u64 0, .int .i64 0, .pointer none] 84)).alloc (.cells #[.iface 9 (.string ⟨#[119, 105, 110, 100, 111, 119]⟩), .iface 9 (.string ⟨#[99, 108, 111, 115, 101]⟩)] 20)).drew hF (by go_simp) (by go_simp)
  have hA2 := run_sprA F (w.heap.size + 1 + 1) (((w.alloc (.cells #[.string ⟨#[]⟩, .int .u64 0, .int .i64 0, .pointer none] 84)).alloc (.cells #[.string ⟨#[]⟩, .int .u64 0, .int .i64 0, .pointer none] 84)).alloc (.cells #[.iface 9 (.string ⟨#[119, 105, 110, 100, 111, 119]⟩), .iface 9 (.string ⟨#[99, 108, 111, 115, 101]⟩)] 20)).drew hF (by go_simp) (by go_simp)
  have hA3 := run_sprA F (w.heap.size + 1) (((w.alloc (.cells #[.string ⟨#[]⟩, .int .u64 0, .int .i64 0, .pointer none] 84)).alloc (.cells #[.iface 9 (.string ⟨#[119, 105, 110, 100, 111, 119]⟩), .iface 9 (.string ⟨#[99, 108, 111, 115, 101]⟩)] 20)).alloc (.cells #[.string ⟨#[]⟩, .int .u64 0, .int .i64 0, .pointer none] 84)).drew hF (by go_simp) (by go_simp)
  have hb1 : b < w.heap.size + 1 := by omega
  have hb2 : b < w.heap.size + 1 + 1 := by omega
  have hb3 : b < w.heap.size + 1 + 1 + 1 := by omega
  have hw1 : wb < w.heap.size + 1 := by omega
  have hw2 : wb < w.heap.size + 1 + 1 := by omega
  have hw3 : wb < w.heap.size + 1 + 1 + 1 := by omega
  go_enter Tryf.func31, Tryf.ntmps31
  go_upto_region 1 with fail
  go_cut [3] from 4 to 15 (fun p wx => ∃ g s, p = .pointer (some ⟨g, 0, none⟩) ∧ s = sprA F ∧ w.heap.size < g ∧ wx.heap[g]? = some (.cells #[.string s, .int .u64 (n : Int), .int .i64 x, .pointer none] 84) ∧ Below (w.heap.size + 1) (w.alloc (.cells #[.string ⟨#[]⟩, .int .u64 0, .int .i64 0, .pointer none] 84)) wx)
  case first =>
    go_region_held3 (fun w' => w'.cell? ⟨b, 23, none⟩ = some (.pointer (some ⟨wb, 0, none⟩)) ∧ w'.cell? ⟨wb, 3, none⟩ = some (.int .u64 (n : Int)) ∧ w'.cell? ⟨wb, 4, none⟩ = some (.int .i64 x) ∧ w'.cell? ⟨wb, 5, none⟩ = some (.pointer none)) (simp (maxDischargeDepth := 12) [*, World.cell?_alloc_some]) (fail)
    all_goals go_wp2_with fail
    all_goals go_meet
    all_goals (clear hA1 hA2 hA3)
    all_goals refine ⟨_, _, rfl, rfl, by omega, by first | exact heap_top _ _ _ _ | exact heap_mid _ _ _ _, ?_⟩
    all_goals exact (((Below.refl _ _).alloc (by simp) _).alloc (by simp) _).drew.drew
  case rest =>
    obtain ⟨g, s, rfl, rfl, hg, hgb, hB⟩ := hcut
    clear hA1 hA2 hA3
    have k25 : wc.cell? ⟨b, 25, none⟩ = some (.pointer (some ⟨eb, 0, none⟩)) := by rw [hB.cell hb1]; go_simp
    have k0 : wc.cell? ⟨eb, 0, none⟩ = some (.int .i64 d) := by rw [hB.cell (show eb < w.heap.size + 1 by omega)]; go_simp
    have g0 : wc.cell? ⟨g, 0, none⟩ = some (.string (sprA F)) := by simp [World.cell?, hgb]
    have g1 : wc.cell? ⟨g, 1, none⟩ = some (.int .u64 (n : Int)) := by simp [World.cell?, hgb]
    have g2 : wc.cell? ⟨g, 2, none⟩ = some (.int .i64 x) := by simp [World.cell?, hgb]
    have g3 : wc.cell? ⟨g, 3, none⟩ = some (.pointer none) := by simp [World.cell?, hgb]
    have fg : ∀ j, wc.frozen? ⟨g, j, none⟩ = false := by intro j; simp [World.frozen?, hgb]
    have hh : Hid (Below (w.heap.size + 1) (w.alloc (.cells #[.string ⟨#[]⟩, .int .u64 0, .int .i64 0, .pointer none] 84)) wc) := hB
    have hs1 : w.heap.size + 1 ≤ wc.heap.size := by have := hB.size; simpa using this
    have hgl : g < wc.heap.size := World.block_lt_of_cell? wc ⟨g, 0, none⟩ g0
    clear hB hgb
    have hB1 := run_sprB F wc.heap.size (wc.alloc (.cells #[.iface 9 (.string ⟨#[101, 109, 101, 114, 103, 101, 110, 99, 121]⟩), .iface 9 (.string ⟨#[101, 120, 116, 101, 110, 115, 105, 111, 110, 95, 109, 105, 110, 117, 116, 101, 115]⟩)] 20)).drew (by show F.answers wc.tape; rw [(Hid.out hh).tape]; exact hF) (by go_simp) (by go_simp)
    go_upto_region 3 with fail
    go_cut [3] from 21 to 28 (fun p wx => p = .pointer (some ⟨g, 0, none⟩) ∧ wx = ((wc.setCell ⟨g, 0, none⟩ (.string (sprA F ++ sprB F))).alloc (.cells #[.iface 9 (.string ⟨#[101, 109, 101, 114, 103, 101, 110, 99, 121]⟩), .iface 9 (.string ⟨#[101, 120, 116, 101, 110, 115, 105, 111, 110, 95, 109, 105, 110, 117, 116, 101, 115]⟩)] 20)).drew.drew)
    case first =>
      go_region_with (fail)
      all_goals go_wp2_with fail
      all_goals go_meet
      all_goals exact ⟨rfl, rfl⟩
    case rest =>
      obtain ⟨rfl, hwd⟩ := hcut
      have hB2 : Below (w.heap.size + 1) (w.alloc (.cells #[.string ⟨#[]⟩, .int .u64 0, .int .i64 0, .pointer none] 84)) wc := by
        rw [hwd]; exact (((Hid.out hh).setCell (show w.heap.size + 1 ≤ g by omega) _).alloc (by simpa [World.setCell] using hs1) _).drew.drew
      have e0 : wc.cell? ⟨g, 0, none⟩ = some (.string (sprA F ++ sprB F)) := by rw [hwd]; go_simp
      have e1 : wc.cell? ⟨g, 1, none⟩ = some (.int .u64 (n : Int)) := by rw [hwd]; go_simp
      have e2 : wc.cell? ⟨g, 2, none⟩ = some (.int .i64 x) := by rw [hwd]; go_simp
      have e3 : wc.cell? ⟨g, 3, none⟩ = some (.pointer none) := by rw [hwd]; go_simp
      have ef : ∀ j, wc.frozen? ⟨g, j, none⟩ = false := by intro j; rw [hwd]; go_simp
      have e25 : wc.cell? ⟨b, 25, none⟩ = some (.pointer (some ⟨eb, 0, none⟩)) := by rw [hB2.cell hb1]; go_simp
      have eE : wc.cell? ⟨eb, 0, none⟩ = some (.int .i64 d) := by rw [hB2.cell (show eb < w.heap.size + 1 by omega)]; go_simp
      have hgl2 : g < wc.heap.size := World.block_lt_of_cell? wc ⟨g, 0, none⟩ e0
      have hs2 : w.heap.size + 1 ≤ wc.heap.size := by have := hB2.size; simpa using this
      clear hwd hh g0 g1 g2 g3 fg k25 k0 hs1 hgl hB1
      have hh : Hid (Below (w.heap.size + 1) (w.alloc (.cells #[.string ⟨#[]⟩, .int .u64 0, .int .i64 0, .pointer none] 84)) wc) := hB2
      clear hB2
      have h7 := timeAdd n x d wc.drew hn hx hd
      unfold Tm at h7
      go_upto_region 4 with fail
      go_cut [3] from 29 to 39 (fun p wx => p = .pointer (some ⟨g, 0, none⟩) ∧ ∃ (m : Nat) (y : Int), m < 1000000000 ∧ y * 1000000000 + m = x * 1000000000 + n + d ∧ wx.cell? ⟨g, 0, none⟩ = some (.string (sprA F ++ sprB F)) ∧ wx.cell? ⟨g, 1, none⟩ = some (.int .u64 (m : Int)) ∧ wx.cell? ⟨g, 2, none⟩ = some (.int .i64 y) ∧ wx.cell? ⟨g, 3, none⟩ = some (.pointer none) ∧ Below (w.heap.size + 1) (w.alloc (.cells #[.string ⟨#[]⟩, .int .u64 0, .int .i64 0, .pointer none] 84)) wx)
      case first =>
        go_region_with (go_at_call 7; refine h7.mono ?_; rintro e w' ⟨m, y, rfl, hm, hmy, hBw⟩; have q0 : w'.cell? ⟨g, 0, none⟩ = some (.string (sprA F ++ sprB F)) := (hBw.cell hgl2).trans e0; have q1 : w'.cell? ⟨g, 1, none⟩ = some (.int .u64 (n : Int)) := (hBw.cell hgl2).trans e1; have q2 : w'.cell? ⟨g, 2, none⟩ = some (.int .i64 x) := (hBw.cell hgl2).trans e2; have q3 : w'.cell? ⟨g, 3, none⟩ = some (.pointer none) := (hBw.cell hgl2).trans e3; have qf1 : w'.frozen? ⟨g, 1, none⟩ = false := (hBw.frozen hgl2).trans (ef 1); have qf2 : w'.frozen? ⟨g, 2, none⟩ = false := (hBw.frozen hgl2).trans (ef 2); have qf3 : w'.frozen? ⟨g, 3, none⟩ = false := (hBw.frozen hgl2).trans (ef 3); have HS := Lib.hid hmy; have HB := Lib.hid hBw; have HM := Lib.hid hm; clear hmy hBw hm; unfold Tm)
        all_goals go_wp2_with fail
        all_goals go_meet
        all_goals
          clear h7
          have hBw := Hid.out HB
          have hB := Hid.out hh
          refine ⟨rfl, m, y, Hid.out HM, Hid.out HS, by go_simp, by go_simp, by go_simp, by go_simp, ?_⟩
          have h1 : Below (w.heap.size + 1) (w.alloc (.cells #[.string ⟨#[]⟩, .int .u64 0, .int .i64 0, .pointer none] 84)) w' := hB.drew.trans (hBw.mono hs2)
          exact ((h1.setCell (show w.heap.size + 1 ≤ g by omega) _).setCell (show w.heap.size + 1 ≤ g by omega) _).setCell (show w.heap.size + 1 ≤ g by omega) _
      case rest =>
        obtain ⟨rfl, m, y, hm, hmy, i0, i1, i2, i3, hB⟩ := hcut
        clear hh h7 e0 e1 e2 e3 ef e25 eE hgl2 hs2
        have hh : Hid (Below (w.heap.size + 1) (w.alloc (.cells #[.string ⟨#[]⟩, .int .u64 0, .int .i64 0, .pointer none] 84)) wc) := hB
        have HS := Lib.hid hmy
        have HM := Lib.hid hm
        have f0 : wc.frozen? ⟨w.heap.size, 0, none⟩ = false := by rw [hB.frozen (Nat.lt_succ_self _)]; go_simp
        have f1 : wc.frozen? ⟨w.heap.size, 1, none⟩ = false := by rw [hB.frozen (Nat.lt_succ_self _)]; go_simp
        have f2 : wc.frozen? ⟨w.heap.size, 2, none⟩ = false := by rw [hB.frozen (Nat.lt_succ_self _)]; go_simp
        have f3 : wc.frozen? ⟨w.heap.size, 3, none⟩ = false := by rw [hB.frozen (Nat.lt_succ_self _)]; go_simp
        have r0 : wc.cell? ⟨w.heap.size, 0, none⟩ = some (.string ⟨#[]⟩) := by rw [hB.cell (Nat.lt_succ_self _)]; go_simp
        have r1 : wc.cell? ⟨w.heap.size, 1, none⟩ = some (.int .u64 0) := by rw [hB.cell (Nat.lt_succ_self _)]; go_simp
        have r2 : wc.cell? ⟨w.heap.size, 2, none⟩ = some (.int .i64 0) := by rw [hB.cell (Nat.lt_succ_self _)]; go_simp
        have r3 : wc.cell? ⟨w.heap.size, 3, none⟩ = some (.pointer none) := by rw [hB.cell (Nat.lt_succ_self _)]; go_simp
        clear hB hm hmy
        go_wp2_with fail
        refine bodyPost_ret (v := .agg #[.string (sprA F ++ sprB F), .int .u64 (m : Int), .int .i64 y, .pointer none]) (by simp [results, Tryf.results31, go_sem, *]) rfl ?_
        have hB := Hid.out hh
        refine ⟨_, m, y, rfl, Hid.out HM, Hid.out HS, ?_⟩
        have h1 : Below w.heap.size w wc := ((Below.refl _ _).alloc (Nat.le_refl _) _).trans (hB.mono (Nat.le_succ _))
        exact (((h1.setCell (Nat.le_refl _) _).setCell (Nat.le_refl _) _).setCell (Nat.le_refl _) _).setCell (Nat.le_refl _) _
end Go.Proofs.Qxb6614591aFmt
