import Derived.Test.Qxb6614591aFmtBef
import Derived.Deep.RegionHeld3
namespace Go.Proofs.Qxb6614591aFmt
open Go.RowKit

set_option maxHeartbeats 400000 in
set_option maxRecDepth 20000 in
theorem timeSub (n m : Nat) (x y d : Int) (w : World) (h1 : n < 1000000000) (h2 : m < 1000000000) (hy : -80000000000 ≤ y ∧ y ≤ 80000000000)
    (hd : x * 1000000000 + n = y * 1000000000 + m + d) (hd1 : -9000000000000000000 ≤ d ∧ d ≤ 9000000000000000000) :
    Calls Tryf.prog 10 #[Tm n x, Tm m y] w fun e w' => e = .returned (.int .i64 d) ∧ Below w.heap.size w w' := by
  show Calls Tryf.prog 10 #[.agg #[.int .u64 (n : Int), .int .i64 x, .pointer none], .agg #[.int .u64 (m : Int), .int .i64 y, .pointer none]] w _
  obtain ⟨k, hk, e1⟩ := and_two n m h1 h2
  have e2 := and_top k hk
  obtain ⟨W, hW⟩ : ∃ W, W = (w.alloc (.cells #[.int .u64 (n : Int), .int .i64 x, .pointer none] 25)).alloc (.cells #[.int .u64 (m : Int), .int .i64 y, .pointer none] 25) := ⟨_, rfl⟩
  have s1 := sec w.heap.size n x W h1 (by rw [hW]; go_simp) (by rw [hW]; go_simp)
  have s2 := sec (w.heap.size + 1) m y W h2 (by rw [hW]; go_simp) (by rw [hW]; go_simp)
  have t1 := nsec w.heap.size n W h1 (by rw [hW]; go_simp)
  have t2 := nsec (w.heap.size + 1) m W h2 (by rw [hW]; go_simp)
  have h7 := timeAdd m y d W.drew h2 (by omega) (by omega)
  unfold Tm at h7
  subst hW
  have b1 : wrap64 (x - y) = x - y := by unfold wrap64; omega
  have b2 : wrap64 ((x - y) * 1000000000) = (x - y) * 1000000000 := by unfold wrap64; omega
  have b3 : wrap32 ((n : Int) - m) = (n : Int) - m := by unfold wrap32; omega
  have b4 : wrap64 ((n : Int) - m) = (n : Int) - m := by unfold wrap64; omega
  have b5 : wrap64 ((x - y) * 1000000000 + ((n : Int) - m)) = d := by unfold wrap64; omega
  have hs0 : w.heap.size < ((w.alloc (.cells #[.int .u64 (n : Int), .int .i64 x, .pointer none] 25)).alloc (.cells #[.int .u64 (m : Int), .int .i64 y, .pointer none] 25)).drew.heap.size := by simp; omega
  have hs1 : w.heap.size + 1 < ((w.alloc (.cells #[.int .u64 (n : Int), .int .i64 x, .pointer none] 25)).alloc (.cells #[.int .u64 (m : Int), .int .i64 y, .pointer none] 25)).drew.heap.size := by simp
  have Hd := Lib.hid hd
  have H1 := Lib.hid h1
  clear hd hd1 hy h1 h2
  go_enter Tryf.func10, Tryf.ntmps10
  go_wp2_with (go_at_call 27; refine s1.mono ?_; rintro e w1 ⟨rfl, hw1⟩; refine Hid.out ?_)
  refine Lib.hid ?_
  subst hw1
  clear s1
  go_wp2_with (go_at_call 27; refine s2.mono ?_; rintro e w1 ⟨rfl, hw1⟩; refine Hid.out ?_)
  refine Lib.hid ?_
  subst hw1
  clear s2
  go_wp2_with (go_at_call 23; refine t1.mono ?_; rintro e w1 ⟨rfl, hw1⟩; refine Hid.out ?_)
  refine Lib.hid ?_
  subst hw1
  clear t1
  go_wp2_with (go_at_call 23; refine t2.mono ?_; rintro e w1 ⟨rfl, hw1⟩; refine Hid.out ?_)
  refine Lib.hid ?_
  subst hw1
  clear t2
  go_wp2_with fail
  go_region_held3 (fun w' => w'.cell? ⟨w.heap.size, 0, none⟩ = some (.int .u64 (n : Int)) ∧ w'.cell? ⟨w.heap.size, 1, none⟩ = some (.int .i64 x) ∧ w'.cell? ⟨w.heap.size, 2, none⟩ = some (.pointer none) ∧ w'.cell? ⟨w.heap.size + 1, 0, none⟩ = some (.int .u64 (m : Int)) ∧ w'.cell? ⟨w.heap.size + 1, 1, none⟩ = some (.int .i64 y) ∧ w'.cell? ⟨w.heap.size + 1, 2, none⟩ = some (.pointer none)) (simp (maxDischargeDepth := 12) [*])
    (first
      | (go_at_call 7; refine h7.mono ?_; rintro e w1 ⟨m', y', rfl, hm', hmy', hB1⟩; have ey : x = y' := (by have := Hid.out Hd; have := Hid.out H1; omega); have em : n = m' := (by have := Hid.out Hd; have := Hid.out H1; omega); subst ey; subst em; have q0 : w1.cell? ⟨w.heap.size, 0, none⟩ = some (.int .u64 (n : Int)) := (by rw [hB1.cell hs0]; go_simp); have q1 : w1.cell? ⟨w.heap.size, 1, none⟩ = some (.int .i64 x) := (by rw [hB1.cell hs0]; go_simp); have q2 : w1.cell? ⟨w.heap.size, 2, none⟩ = some (.pointer none) := (by rw [hB1.cell hs0]; go_simp); have q3 : w1.cell? ⟨w.heap.size + 1, 0, none⟩ = some (.int .u64 (m : Int)) := (by rw [hB1.cell hs1]; go_simp); have q4 : w1.cell? ⟨w.heap.size + 1, 1, none⟩ = some (.int .i64 y) := (by rw [hB1.cell hs1]; go_simp); have q5 : w1.cell? ⟨w.heap.size + 1, 2, none⟩ = some (.pointer none) := (by rw [hB1.cell hs1]; go_simp); have hz0 := Nat.lt_of_lt_of_le hs0 hB1.size; have hz1 := Nat.lt_of_lt_of_le hs1 hB1.size; have G1 := Lib.hid hB1; clear hmy' hm' hB1; unfold Tm)
      | (go_at_call 9; refine (timeEq _ _ _ (Hid.out H1)).mono ?_; rintro e w2 ⟨rfl, hB2⟩; have r0 : w2.cell? ⟨w.heap.size, 0, none⟩ = some (.int .u64 (n : Int)) := (by rw [hB2.cell hz0]; exact q0); have r1 : w2.cell? ⟨w.heap.size, 1, none⟩ = some (.int .i64 x) := (by rw [hB2.cell hz0]; exact q1); have r2 : w2.cell? ⟨w.heap.size, 2, none⟩ = some (.pointer none) := (by rw [hB2.cell hz0]; exact q2); have r3 : w2.cell? ⟨w.heap.size + 1, 0, none⟩ = some (.int .u64 (m : Int)) := (by rw [hB2.cell hz1]; exact q3); have r4 : w2.cell? ⟨w.heap.size + 1, 1, none⟩ = some (.int .i64 y) := (by rw [hB2.cell hz1]; exact q4); have r5 : w2.cell? ⟨w.heap.size + 1, 2, none⟩ = some (.pointer none) := (by rw [hB2.cell hz1]; exact q5); have G2 := Lib.hid hB2; clear hB2))
  clear h7
  go_wp2_with fail
  go_ret
  refine ⟨rfl, ?_⟩
  have g0 : Below w.heap.size w ((w.alloc (.cells #[.int .u64 (n : Int), .int .i64 x, .pointer none] 25)).alloc (.cells #[.int .u64 (m : Int), .int .i64 y, .pointer none] 25)).drew := (((Below.refl _ w).alloc (Nat.le_refl _) _).alloc (by simp) _).drew
  have g1 := Hid.out G1
  have g2 := Hid.out G2
  exact (g0.trans (g1.mono g0.size)).trans (g2.mono (Nat.le_trans g0.size g1.size))
end Go.Proofs.Qxb6614591aFmt
