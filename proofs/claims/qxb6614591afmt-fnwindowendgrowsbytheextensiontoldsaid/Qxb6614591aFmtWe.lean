import Derived.Test.Qxb6614591aFmtEq
import Derived.Test.Qxb6614591aFmtSpr
import Derived.Deep.CutRange
import Derived.Deep.DeepCutAuto
import Derived.Deep.RegionHeld3
namespace Go.Proofs.Qxb6614591aFmt
open Go.RowKit Go.Extern.Stop Go.Stop Go.Extern

def EndOk (n : Nat) (x : Int) (w : World) (e : Ending) (w' : World) : Prop :=
  ∃ s, e = .returned (.agg #[.string s, .int .u64 (n : Int), .int .i64 x, .pointer none]) ∧ Below w.heap.size w w'

theorem heap_top (w : World) (o1 o2 o3 : Obj) : (((w.alloc o1).alloc o2).alloc o3).drew.drew.heap[w.heap.size + 1 + 1]? = some o3 := by
  show (((w.heap.push o1).push o2).push o3)[w.heap.size + 1 + 1]? = some o3
  rw [Array.getElem?_push, if_pos (by simp)]
theorem heap_mid (w : World) (o1 o2 o3 : Obj) : (((w.alloc o1).alloc o2).alloc o3).drew.drew.heap[w.heap.size + 1]? = some o2 := by
  show (((w.heap.push o1).push o2).push o3)[w.heap.size + 1]? = some o2
  rw [Array.getElem?_push, if_neg (by simp), Array.getElem?_push, if_pos (by simp)]

set_option maxHeartbeats 800000 in
set_option maxRecDepth 20000 in
theorem windowEnd0 (F : Interp) (b wb : Nat) (n : Nat) (x : Int) (w : World) (hF : F.answers w.tape)
    (hb : b < w.heap.size) (hwb : wb < w.heap.size)
    (c23 : w.cell? ⟨b, 23, none⟩ = some (.pointer (some ⟨wb, 0, none⟩))) (c25 : w.cell? ⟨b, 25, none⟩ = some (.pointer none))
    (t0 : w.cell? ⟨wb, 3, none⟩ = some (.int .u64 (n : Int))) (t1 : w.cell? ⟨wb, 4, none⟩ = some (.int .i64 x)) (t2 : w.cell? ⟨wb, 5, none⟩ = some (.pointer none)) :
    Calls Tryf.prog 31 #[.pointer (some ⟨b, 0, none⟩)] w (EndOk n x w) := by
  have hA1 := run_sprA F (w.heap.size + 1) ((w.alloc (.cells #[.string ⟨#[]⟩, .int .u64 0, .int .i64 0, .pointer none] 84)).alloc (.cells #[.iface 9 (.string ⟨#[119, 105, 110, 100, 111, 119]⟩), .iface 9 (.string ⟨#[99, 108, 111, 115, 101]⟩)] 20)).drew hF (by go_simp) (by go_simp)
  have hA2 := run_sprA F (w.heap.size + 1 + 1) (((w.alloc (.cells #[.string ⟨#[]⟩, .int .u64 0, .int .i64 0, .pointer none] 84)).alloc (.cells #[.string ⟨#[]⟩, .int .u64 0, .int .i64 0, .pointer none] 84)).alloc (.cells #[.iface 9 (.string ⟨#[119, 105, 110, 100, 111, 119]⟩), .iface 9 (.string ⟨#[99, 108, 111, 115, 101]⟩)] 20)).drew hF (by go_simp) (by go_simp)
  have hA3 := run_sprA F (w.heap.size + 1) (((w.alloc (.cells #[.string ⟨#[]⟩, .int .u64 0, .int .i64 0, .pointer none] 84)).alloc (.cells #[.iface 9 (.string ⟨#[119, 105, 110, 100, 111, 119]⟩), .iface 9 (.string ⟨#[99, 108, 111, 115, 101]⟩)] 20)).alloc (.cells #[.string ⟨#[]⟩, .int .u64 0, .int .i64 0, .pointer none] 84)).drew hF (by go_simp) (by go_simp)
  have hb1 : b < w.heap.size + 1 := by omega
  have hb2 : b < w.heap.size + 1 + 1 := by omega
  have hb3 : b < w.heap.size + 1 + 1 + 1 := by omega
  have hw1 : wb < w.heap.size + 1 := by omega
  have hw2 : wb < w.heap.size + 1 + 1 := by omega
  have hw3 : wb < w.heap.size + 1 + 1 + 1 := by omega
  go_enter Tryf.func31, Tryf.ntmps31
  go_upto_region 1 with fail
  go_cut [3] from 4 to 15 (fun p wx => ∃ g s, p = .pointer (some ⟨g, 0, none⟩) ∧ w.heap.size < g ∧ wx.heap[g]? = some (.cells #[.string s, .int .u64 (n : Int), .int .i64 x, .pointer none] 84) ∧ Below (w.heap.size + 1) (w.alloc (.cells #[.string ⟨#[]⟩, .int .u64 0, .int .i64 0, .pointer none] 84)) wx)
  case first =>
    go_region_held3 (fun w' => w'.cell? ⟨b, 23, none⟩ = some (.pointer (some ⟨wb, 0, none⟩)) ∧ w'.cell? ⟨wb, 3, none⟩ = some (.int .u64 (n : Int)) ∧ w'.cell? ⟨wb, 4, none⟩ = some (.int .i64 x) ∧ w'.cell? ⟨wb, 5, none⟩ = some (.pointer none)) (simp (maxDischargeDepth := 12) [*, World.cell?_alloc_some]) (fail)
    all_goals go_wp2_with fail
    all_goals go_meet
    all_goals (clear hA1 hA2 hA3)
    all_goals refine ⟨_, _, rfl, by omega, by first | exact heap_top _ _ _ _ | exact heap_mid _ _ _ _, ?_⟩
    all_goals exact (((Below.refl _ _).alloc (by simp) _).alloc (by simp) _).drew.drew
  case rest =>
    obtain ⟨g, s, rfl, hg, hgb, hB⟩ := hcut
    clear hA1 hA2 hA3
    have k25 : wc.cell? ⟨b, 25, none⟩ = some (.pointer none) := by rw [hB.cell hb1]; go_simp
    have g0 : wc.cell? ⟨g, 0, none⟩ = some (.string s) := by simp [World.cell?, hgb]
    have g1 : wc.cell? ⟨g, 1, none⟩ = some (.int .u64 (n : Int)) := by simp [World.cell?, hgb]
    have g2 : wc.cell? ⟨g, 2, none⟩ = some (.int .i64 x) := by simp [World.cell?, hgb]
    have g3 : wc.cell? ⟨g, 3, none⟩ = some (.pointer none) := by simp [World.cell?, hgb]
    have hh : Hid (Below (w.heap.size + 1) (w.alloc (.cells #[.string ⟨#[]⟩, .int .u64 0, .int .i64 0, .pointer none] 84)) wc) := hB
    have f0 : wc.frozen? ⟨w.heap.size, 0, none⟩ = false := by rw [hB.frozen (Nat.lt_succ_self _)]; go_simp
    have f1 : wc.frozen? ⟨w.heap.size, 1, none⟩ = false := by rw [hB.frozen (Nat.lt_succ_self _)]; go_simp
    have f2 : wc.frozen? ⟨w.heap.size, 2, none⟩ = false := by rw [hB.frozen (Nat.lt_succ_self _)]; go_simp
    have f3 : wc.frozen? ⟨w.heap.size, 3, none⟩ = false := by rw [hB.frozen (Nat.lt_succ_self _)]; go_simp
    have r0 : wc.cell? ⟨w.heap.size, 0, none⟩ = some (.string ⟨#[]⟩) := by rw [hB.cell (Nat.lt_succ_self _)]; go_simp
    have r1 : wc.cell? ⟨w.heap.size, 1, none⟩ = some (.int .u64 0) := by rw [hB.cell (Nat.lt_succ_self _)]; go_simp
    have r2 : wc.cell? ⟨w.heap.size, 2, none⟩ = some (.int .i64 0) := by rw [hB.cell (Nat.lt_succ_self _)]; go_simp
    have r3 : wc.cell? ⟨w.heap.size, 3, none⟩ = some (.pointer none) := by rw [hB.cell (Nat.lt_succ_self _)]; go_simp
    clear hB hgb
    go_wp2_with fail
    refine bodyPost_ret (v := .agg #[.string s, .int .u64 (n : Int), .int .i64 x, .pointer none]) (by simp [results, Tryf.results31, go_sem, *]) rfl ?_
    have hB := Hid.out hh
    refine ⟨s, rfl, ?_⟩
    have h1 : Below w.heap.size w wc := ((Below.refl _ _).alloc (Nat.le_refl _) _).trans (hB.mono (Nat.le_succ _))
    exact (((h1.setCell (Nat.le_refl _) _).setCell (Nat.le_refl _) _).setCell (Nat.le_refl _) _).setCell (Nat.le_refl _) _
end Go.Proofs.Qxb6614591aFmt
