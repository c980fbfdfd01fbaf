import Derived.Test.Qxb6614591aFmtAt
namespace Go.Proofs.Qxb6614591aFmt
open Go.RowKit Go.Extern.Stop Go.Stop Go.Extern

abbrev NoticeObj (p : Nat) (q : Value) : Obj := .cells #[.string ⟨#[]⟩, .string ⟨#[]⟩, .string ⟨#[]⟩, .string ⟨#[]⟩, .string ⟨#[]⟩, .int .i64 0, .int .u8 0, .int .i64 0, .int .u8 0, .int .i64 0,
  .int .u8 0, .int .i64 0, .int .i64 0, .string ⟨#[]⟩, .pointer none, .int .u64 0, .int .i64 0, .pointer none, .pointer none, .pointer none,
  .pointer none, .pointer none, .pointer none, .pointer (some ⟨p, 0, none⟩), .pointer none, q] 67

set_option maxHeartbeats 800000 in
set_option maxRecDepth 20000 in
theorem zzEnd0 (F : Interp) (n : Nat) (x d : Int) (w : World) (hF : F.answers w.tape) (hn : n < 1000000000) (hx : -90000000000 ≤ x ∧ x ≤ 90000000000) :
    Calls Tryf.prog 8 #[Tm n x, .bool false, .int .i64 d] w fun e w' => e = .returned (Tm n x) ∧ Below w.heap.size w w' := by
  show Calls Tryf.prog 8 #[.agg #[.int .u64 (n : Int), .int .i64 x, .pointer none], .bool false, .int .i64 d] w _
  have h7 := timeAdd n x (-3600000000000) ((w.alloc (.cells #[.int .u64 (n : Int), .int .i64 x, .pointer none] 25)).alloc (.cells #[.int .u64 0, .int .i64 0, .pointer none] 25)).drew hn hx (by omega)
  unfold Tm at h7
  have hs0 : w.heap.size < ((w.alloc (.cells #[.int .u64 (n : Int), .int .i64 x, .pointer none] 25)).alloc (.cells #[.int .u64 0, .int .i64 0, .pointer none] 25)).drew.heap.size := by simp; omega
  go_enter Tryf.func8, Tryf.ntmps8
  go_wp2_with fail
  go_region_held3 (fun w' => w'.cell? ⟨w.heap.size, 0, none⟩ = some (.int .u64 (n : Int)) ∧ w'.cell? ⟨w.heap.size, 1, none⟩ = some (.int .i64 x) ∧ w'.cell? ⟨w.heap.size, 2, none⟩ = some (.pointer none)) (simp (maxDischargeDepth := 12) [*, World.cell?_alloc_some]) ((go_at_call 7; refine h7.mono ?_; rintro e w1 ⟨m, y, rfl, hm, hmy, hBw⟩; have q0 : w1.cell? ⟨w.heap.size, 0, none⟩ = some (.int .u64 (n : Int)) := (by rw [hBw.cell hs0]; go_simp); have q1 : w1.cell? ⟨w.heap.size, 1, none⟩ = some (.int .i64 x) := (by rw [hBw.cell hs0]; go_simp); have q2 : w1.cell? ⟨w.heap.size, 2, none⟩ = some (.pointer none) := (by rw [hBw.cell hs0]; go_simp); have HB := Lib.hid hBw; clear hmy hBw hm; unfold Tm))
  clear h7
  have hb := Hid.out HB
  have hs1 : w.heap.size + 1 + 1 ≤ w1.heap.size := by have := hb.size; simpa using this
  have hT : F.answers w1.tape := by rw [hb.tape]; exact hF
  have h26 := endAt0 F (w1.heap.size + 1) w1.heap.size n x ((w1.alloc (.cells #[.int .u64 (m : Int), .int .i64 y, .pointer none, .int .u64 (n : Int), .int .i64 x, .pointer none] 51)).alloc (NoticeObj w1.heap.size (.pointer none))) hT (by simp) (by simp; omega) (by go_simp) (by go_simp) (by go_simp) (by go_simp) (by go_simp)
  have s0 : w1.frozen? ⟨w.heap.size + 1, 0, none⟩ = false := by rw [hb.frozen (by simp)]; go_simp
  have s1 : w1.frozen? ⟨w.heap.size + 1, 1, none⟩ = false := by rw [hb.frozen (by simp)]; go_simp
  have s2 : w1.frozen? ⟨w.heap.size + 1, 2, none⟩ = false := by rw [hb.frozen (by simp)]; go_simp
  have v0 : w1.cell? ⟨w.heap.size + 1, 0, none⟩ = some (.int .u64 0) := by rw [hb.cell (by simp)]; go_simp
  have v1 : w1.cell? ⟨w.heap.size + 1, 1, none⟩ = some (.int .i64 0) := by rw [hb.cell (by simp)]; go_simp
  have v2 : w1.cell? ⟨w.heap.size + 1, 2, none⟩ = some (.pointer none) := by rw [hb.cell (by simp)]; go_simp
  have hA : Below w.heap.size w w1 := (((Below.refl _ _).alloc (Nat.le_refl _) _).alloc (by simp) _).drew.trans (hb.mono (by simp; omega))
  have hA2 : Below w1.heap.size w1 ((w1.alloc (.cells #[.int .u64 (m : Int), .int .i64 y, .pointer none, .int .u64 (n : Int), .int .i64 x, .pointer none] 51)).alloc (NoticeObj w1.heap.size (.pointer none))) := ((Below.refl _ _).alloc (Nat.le_refl _) _).alloc (by simp) _
  have HA := Lib.hid hA
  have HA2 := Lib.hid hA2
  clear hb HB hA hA2 q0 q1 q2
  go_wp2_with (go_at_call 26; refine h26.mono ?_; rintro e w3 ⟨rfl, hB3⟩; refine Hid.out ?_)
  refine Lib.hid ?_
  clear h26
  have hA2 := Hid.out HA2
  have hA3 : Below w1.heap.size w1 w3 := hA2.trans (hB3.mono (by simp; omega))
  have s0 : w3.frozen? ⟨w.heap.size + 1, 0, none⟩ = false := by rw [hA3.frozen (show w.heap.size + 1 < w1.heap.size by omega)]; exact s0
  have s1 : w3.frozen? ⟨w.heap.size + 1, 1, none⟩ = false := by rw [hA3.frozen (show w.heap.size + 1 < w1.heap.size by omega)]; exact s1
  have s2 : w3.frozen? ⟨w.heap.size + 1, 2, none⟩ = false := by rw [hA3.frozen (show w.heap.size + 1 < w1.heap.size by omega)]; exact s2
  have v0 : w3.cell? ⟨w.heap.size + 1, 0, none⟩ = some (.int .u64 0) := by rw [hA3.cell (show w.heap.size + 1 < w1.heap.size by omega)]; exact v0
  have v1 : w3.cell? ⟨w.heap.size + 1, 1, none⟩ = some (.int .i64 0) := by rw [hA3.cell (show w.heap.size + 1 < w1.heap.size by omega)]; exact v1
  have v2 : w3.cell? ⟨w.heap.size + 1, 2, none⟩ = some (.pointer none) := by rw [hA3.cell (show w.heap.size + 1 < w1.heap.size by omega)]; exact v2
  have hA4 : Below w.heap.size w w3 := (Hid.out HA).trans (hA3.mono (by omega))
  have H4 := Lib.hid hA4
  clear hA2 HA2 hA3 hA4 HA hB3
  unfold Tm
  go_wp2_with fail
  refine bodyPost_ret (v := .agg #[.int .u64 (n : Int), .int .i64 x, .pointer none]) (by simp [results, Tryf.results8, go_sem, *]) rfl ?_
  exact ⟨rfl, (((Hid.out H4).setCell (show w.heap.size ≤ w.heap.size + 1 by omega) _).setCell (show w.heap.size ≤ w.heap.size + 1 by omega) _).setCell (show w.heap.size ≤ w.heap.size + 1 by omega) _⟩
end Go.Proofs.Qxb6614591aFmt
