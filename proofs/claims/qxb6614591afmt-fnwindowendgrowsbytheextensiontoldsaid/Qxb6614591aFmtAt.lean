import Derived.Test.Qxb6614591aFmtWf
namespace Go.Proofs.Qxb6614591aFmt
open Go.RowKit Go.Extern.Stop Go.Stop Go.Extern

theorem field84 (s : ByteArray) (n x : Int) (w : World) : (Instr.field 84 (.agg #[.string s, .int .u64 n, .int .i64 x, .pointer none]) 1).run Tryf.prog w = .ok (.agg #[.int .u64 n, .int .i64 x, .pointer none]) w := by
  kernel_rfl

set_option maxHeartbeats 400000 in
set_option maxRecDepth 20000 in
theorem endAt0 (F : Interp) (b wb : Nat) (n : Nat) (x : Int) (w : World) (hF : F.answers w.tape)
    (hb : b < w.heap.size) (hwb : wb < w.heap.size)
    (c23 : w.cell? ⟨b, 23, none⟩ = some (.pointer (some ⟨wb, 0, none⟩))) (c25 : w.cell? ⟨b, 25, none⟩ = some (.pointer none))
    (t0 : w.cell? ⟨wb, 3, none⟩ = some (.int .u64 (n : Int))) (t1 : w.cell? ⟨wb, 4, none⟩ = some (.int .i64 x)) (t2 : w.cell? ⟨wb, 5, none⟩ = some (.pointer none)) :
    Calls Tryf.prog 26 #[.pointer (some ⟨b, 0, none⟩)] w fun e w' => e = .returned (Tm n x) ∧ Below w.heap.size w w' := by
  have hA : Below w.heap.size w (w.alloc (.cells #[.int .u64 0, .int .i64 0, .pointer none] 25)) := (Below.refl _ _).alloc (Nat.le_refl _) _
  have h31 := windowEnd0 F b wb n x (w.alloc (.cells #[.int .u64 0, .int .i64 0, .pointer none] 25)) hF (by simp; omega) (by simp; omega)
    ((hA.cell hb).trans c23) ((hA.cell hb).trans c25) ((hA.cell hwb).trans t0) ((hA.cell hwb).trans t1) ((hA.cell hwb).trans t2)
  clear c23 c25 t0 t1 t2
  go_enter Tryf.func26, Tryf.ntmps26
  go_wp2_with (go_at_call 31; refine h31.mono ?_; rintro e w1 ⟨s, rfl, hB⟩; refine Hid.out ?_)
  refine Lib.hid ?_
  clear h31
  have hs : w.heap.size < (w.alloc (.cells #[.int .u64 0, .int .i64 0, .pointer none] 25)).heap.size := by simp
  have r0 : w1.cell? ⟨w.heap.size, 0, none⟩ = some (.int .u64 0) := by rw [hB.cell hs]; go_simp
  have r1 : w1.cell? ⟨w.heap.size, 1, none⟩ = some (.int .i64 0) := by rw [hB.cell hs]; go_simp
  have r2 : w1.cell? ⟨w.heap.size, 2, none⟩ = some (.pointer none) := by rw [hB.cell hs]; go_simp
  have f0 : w1.frozen? ⟨w.heap.size, 0, none⟩ = false := by rw [hB.frozen hs]; go_simp
  have f1 : w1.frozen? ⟨w.heap.size, 1, none⟩ = false := by rw [hB.frozen hs]; go_simp
  have f2 : w1.frozen? ⟨w.heap.size, 2, none⟩ = false := by rw [hB.frozen hs]; go_simp
  have hB' : Below w.heap.size w w1 := hA.trans (hB.mono (by simp))
  have HB := Lib.hid hB'
  clear hB hB' hA hs
  have hf84 := field84
  go_wp2_with fail
  refine bodyPost_ret (v := .agg #[.int .u64 (n : Int), .int .i64 x, .pointer none]) (by simp [results, Tryf.results26, go_sem, *]) rfl ?_
  exact ⟨rfl, (((Hid.out HB).setCell (Nat.le_refl _) _).setCell (Nat.le_refl _) _).setCell (Nat.le_refl _) _⟩

set_option maxHeartbeats 400000 in
set_option maxRecDepth 20000 in
theorem endAt1 (F : Interp) (b wb eb : Nat) (n : Nat) (x d : Int) (w : World) (hF : F.answers w.tape) (hAB : (sprA F).size + (sprB F).size ≤ 9223372036854775807)
    (hb : b < w.heap.size) (hwb : wb < w.heap.size)
    (c23 : w.cell? ⟨b, 23, none⟩ = some (.pointer (some ⟨wb, 0, none⟩))) (c25 : w.cell? ⟨b, 25, none⟩ = some (.pointer (some ⟨eb, 0, none⟩))) (heb : eb < w.heap.size) (c0 : w.cell? ⟨eb, 0, none⟩ = some (.int .i64 d))
    (hn : n < 1000000000) (hx : -90000000000 ≤ x ∧ x ≤ 90000000000) (hd : -9223372036854775808 ≤ d ∧ d ≤ 9223372036854775807)
    (t0 : w.cell? ⟨wb, 3, none⟩ = some (.int .u64 (n : Int))) (t1 : w.cell? ⟨wb, 4, none⟩ = some (.int .i64 x)) (t2 : w.cell? ⟨wb, 5, none⟩ = some (.pointer none)) :
    Calls Tryf.prog 26 #[.pointer (some ⟨b, 0, none⟩)] w (Added n x d w) := by
  have hA : Below w.heap.size w (w.alloc (.cells #[.int .u64 0, .int .i64 0, .pointer none] 25)) := (Below.refl _ _).alloc (Nat.le_refl _) _
  have h31 := windowEnd1 F b wb eb n x d (w.alloc (.cells #[.int .u64 0, .int .i64 0, .pointer none] 25)) hF hAB (by simp; omega) (by simp; omega)
    ((hA.cell hb).trans c23) ((hA.cell hb).trans c25) (by simp; omega) ((hA.cell heb).trans c0) hn hx hd ((hA.cell hwb).trans t0) ((hA.cell hwb).trans t1) ((hA.cell hwb).trans t2)
  clear c23 c25 c0 t0 t1 t2
  go_enter Tryf.func26, Tryf.ntmps26
  go_wp2_with (go_at_call 31; refine h31.mono ?_; rintro e w1 ⟨s, m, y, rfl, hm, hmy, hB⟩; refine Hid.out ?_)
  refine Lib.hid ?_
  clear h31
  have hs : w.heap.size < (w.alloc (.cells #[.int .u64 0, .int .i64 0, .pointer none] 25)).heap.size := by simp
  have r0 : w1.cell? ⟨w.heap.size, 0, none⟩ = some (.int .u64 0) := by rw [hB.cell hs]; go_simp
  have r1 : w1.cell? ⟨w.heap.size, 1, none⟩ = some (.int .i64 0) := by rw [hB.cell hs]; go_simp
  have r2 : w1.cell? ⟨w.heap.size, 2, none⟩ = some (.pointer none) := by rw [hB.cell hs]; go_simp
  have f0 : w1.frozen? ⟨w.heap.size, 0, none⟩ = false := by rw [hB.frozen hs]; go_simp
  have f1 : w1.frozen? ⟨w.heap.size, 1, none⟩ = false := by rw [hB.frozen hs]; go_simp
  have f2 : w1.frozen? ⟨w.heap.size, 2, none⟩ = false := by rw [hB.frozen hs]; go_simp
  have hB' : Below w.heap.size w w1 := hA.trans (hB.mono (by simp))
  have HB := Lib.hid hB'
  have HM := Lib.hid hm
  have HS := Lib.hid hmy
  clear hB hB' hA hs hm hmy
  have hf84 := field84
  go_wp2_with fail
  refine bodyPost_ret (v := .agg #[.int .u64 (m : Int), .int .i64 y, .pointer none]) (by simp [results, Tryf.results26, go_sem, *]) rfl ?_
  exact ⟨m, y, rfl, Hid.out HM, Hid.out HS, (((Hid.out HB).setCell (Nat.le_refl _) _).setCell (Nat.le_refl _) _).setCell (Nat.le_refl _) _⟩
end Go.Proofs.Qxb6614591aFmt
