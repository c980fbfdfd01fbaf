import Derived.Test.Qxb6614591aFmtZf
namespace Go.Proofs.Qxb6614591aFmt
open Go.RowKit Go.Extern.Stop Go.Stop Go.Extern

def TmAt (w : World) (b n : Nat) (x : Int) : Prop :=
  w.cell? ⟨b, 0, none⟩ = some (.int .u64 (n : Int)) ∧ w.cell? ⟨b, 1, none⟩ = some (.int .i64 x) ∧ w.cell? ⟨b, 2, none⟩ = some (.pointer none)

abbrev TmObj (n : Nat) (x : Int) : Obj := .cells #[.int .u64 (n : Int), .int .i64 x, .pointer none] 25

theorem TmAt.lt {w : World} {b n : Nat} {x : Int} (h : TmAt w b n x) : b < w.heap.size := World.block_lt_of_cell? w ⟨b, 0, none⟩ h.1
theorem tmAtNew (w : World) (n : Nat) (x : Int) : TmAt (w.alloc (TmObj n x)) w.heap.size n x := ⟨by go_simp, by go_simp, by go_simp⟩
theorem TmAt.below {w w' : World} {B b n : Nat} {x : Int} (h : TmAt w b n x) (hB : Below B w w') (hb : b < B) : TmAt w' b n x :=
  ⟨(hB.cell hb).trans h.1, (hB.cell hb).trans h.2.1, (hB.cell hb).trans h.2.2⟩
theorem TmAt.carry {w w' : World} {b n : Nat} {x : Int} (h : TmAt w b n x) (hB : Below w.heap.size w w') : TmAt w' b n x := h.below hB h.lt
theorem TmAt.alloc {w : World} {b n : Nat} {x : Int} (h : TmAt w b n x) (o : Obj) : TmAt (w.alloc o) b n x :=
  h.carry ((Below.refl _ _).alloc (Nat.le_refl _) o)
theorem belowThen {w a b : World} (h : Below w.heap.size w a) (k : Below a.heap.size a b) : Below w.heap.size w b := h.trans (k.mono h.size)
theorem belowNew {w a : World} (h : Below w.heap.size w a) (o : Obj) : Below w.heap.size w (a.alloc o) := h.alloc h.size o

set_option maxHeartbeats 800000 in
set_option maxRecDepth 20000 in
theorem law3 (F : Interp) (c f s : Int) (w : World) (hF : F.answers w.tape) (hAB : (sprA F).size + (sprB F).size ≤ 9223372036854775807)
    (hc : -9223372036854775808 ≤ c ∧ c ≤ 9223372036854775807) (hf : -2305843009213693952 ≤ f ∧ f ≤ 2305843009213693952) (hs : -2305843009213693952 ≤ s ∧ s ≤ 2305843009213693952) :
    Calls Tryf.prog 3 #[.int .i64 c, .int .i64 f, .int .i64 s] w fun e w' => e = .returned (.bool true) ∧ Below w.heap.size w w' := by
  have a1 : decide (f < -2305843009213693952) = false := by simp; omega
  have a2 : decide (2305843009213693952 < f) = false := by simp; omega
  have a3 : decide (s < -2305843009213693952) = false := by simp; omega
  have a4 : decide (2305843009213693952 < s) = false := by simp; omega
  have h7 := timeAdd 0 0 c w (by omega) (by omega) hc
  unfold Tm at h7
  go_enter Tryf.func3, Tryf.ntmps3
  go_wp2_with (go_at_call 7; refine h7.mono ?_; rintro e w1 ⟨m0, y0, rfl, hm0, hy0, hB1⟩; refine Hid.out ?_)
  refine Lib.hid ?_
  clear h7
  have hW1 := belowNew hB1 (TmObj m0 y0)
  have c7 := tmAtNew w1 m0 y0
  have hT1 : F.answers (w1.alloc (TmObj m0 y0)).tape := by rw [hW1.tape]; exact hF
  have hy0' : -10000000000 ≤ y0 ∧ y0 ≤ 10000000000 := by omega
  have h8 := zzEnd0 F m0 y0 0 (w1.alloc (TmObj m0 y0)) hT1 hm0 (by omega)
  unfold Tm at h8
  have G1 := Lib.hid hW1
  have C7 := Lib.hid c7
  have Y0 := Lib.hid hy0
  have M0 := Lib.hid hm0
  have R0 := Lib.hid hy0'
  clear hB1 hW1 c7 hT1 hm0 hy0 hy0'
  unfold Tm
  go_wp2_with (go_at_call 8; refine h8.mono ?_; rintro e w2 ⟨rfl, hB2⟩; refine Hid.out ?_)
  refine Lib.hid ?_
  clear h8
  have hG1 := Hid.out G1
  have hG2 := belowThen hG1 hB2
  have hW2 := belowNew hG2 (TmObj m0 y0)
  have c7 := ((Hid.out C7).carry hB2).alloc (TmObj m0 y0)
  have c8 := tmAtNew w2 m0 y0
  have hT2 : F.answers (w2.alloc (TmObj m0 y0)).tape := by rw [hW2.tape]; exact hF
  have hr0 := Hid.out R0
  have h8 := zzEnd1 F m0 y0 f (w2.alloc (TmObj m0 y0)) hT2 hAB (by omega) (Hid.out M0) (by omega)
  unfold Tm at h8
  clear C7 G1
  have G1 := Lib.hid hW2
  have C7 := Lib.hid c7
  have C8 := Lib.hid c8
  clear hB2 hG1 hG2 hW2 c8 hT2 hr0
  obtain ⟨d0, d1, d2⟩ := (Hid.out C7)
  clear c7
  go_wp2_with (go_at_call 8; refine h8.mono ?_; rintro e w3 ⟨m1, y1, rfl, hm1, hy1, hB3⟩; refine Hid.out ?_)
  refine Lib.hid ?_
  clear h8 d0 d1 d2
  have hG1 := Hid.out G1
  have hG2 := belowThen hG1 hB3
  have hW2 := belowNew hG2 (TmObj m1 y1)
  have c7 := ((Hid.out C7).carry hB3).alloc (TmObj m1 y1)
  have c8 := ((Hid.out C8).carry hB3).alloc (TmObj m1 y1)
  have hT2 : F.answers (w3.alloc (TmObj m1 y1)).tape := by rw [hW2.tape]; exact hF
  have hr0 := Hid.out R0
  have hr1 : -20000000000 ≤ y1 ∧ y1 ≤ 20000000000 := by have := Hid.out M0; omega
  have h8 := zzEnd1 F m1 y1 s (w3.alloc (TmObj m1 y1)) hT2 hAB (by omega) hm1 (by omega)
  unfold Tm at h8
  clear C7 C8 G1
  have G1 := Lib.hid hW2
  have C7 := Lib.hid c7
  have C8 := Lib.hid c8
  have Y1 := Lib.hid hy1
  have M1 := Lib.hid hm1
  clear hB3 hG1 hG2 hW2 c7 c8 hT2 hr0 hr1 hm1 hy1
  unfold Tm
  go_wp2_with (go_at_call 8; refine h8.mono ?_; rintro e w4 ⟨m2, y2, rfl, hm2, hy2, hB4⟩; refine Hid.out ?_)
  refine Lib.hid ?_
  clear h8
  have hG1 := Hid.out G1
  have hG2 := belowThen hG1 hB4
  have hW2 := belowNew hG2 (TmObj m2 y2)
  have c7 := ((Hid.out C7).carry hB4).alloc (TmObj m2 y2)
  have c8 := ((Hid.out C8).carry hB4).alloc (TmObj m2 y2)
  have c10 := tmAtNew w4 m2 y2
  have hT2 : F.answers (w4.alloc (TmObj m2 y2)).tape := by rw [hW2.tape]; exact hF
  have hr0 := Hid.out R0
  have h8 := zzEnd1 F m0 y0 (f + s) (w4.alloc (TmObj m2 y2)) hT2 hAB (by omega) (Hid.out M0) (by omega)
  unfold Tm at h8
  have hwr : IntKind.i64.wrap (f + s) = f + s := by rw [IntKind.wrap_i64]; omega
  clear C7 C8 G1
  have G1 := Lib.hid hW2
  have C7 := Lib.hid c7
  have C8 := Lib.hid c8
  have C10 := Lib.hid c10
  have Y2 := Lib.hid hy2
  have M2 := Lib.hid hm2
  clear hB4 hG1 hG2 hW2 c7 c8 c10 hT2 hr0 hm2 hy2
  obtain ⟨d0, d1, d2⟩ := (Hid.out C7)
  unfold Tm
  go_wp2_with (go_at_call 8; refine h8.mono ?_; rintro e w5 ⟨m3, y3, rfl, hm3, hy3, hB5⟩; refine Hid.out ?_)
  refine Lib.hid ?_
  clear h8 d0 d1 d2 hwr
  have e2 := Hid.out Y2
  have e1 := Hid.out Y1
  have e0 := Hid.out Y0
  have l2 := Hid.out M2
  have l1 := Hid.out M1
  have l0 := Hid.out M0
  have ey : y3 = y2 := by omega
  have em : m3 = m2 := by omega
  subst ey em
  have hG1 := Hid.out G1
  have hG2 := belowThen hG1 hB5
  have hW2 := belowNew hG2 (TmObj m3 y3)
  have c7 := ((Hid.out C7).carry hB5).alloc (TmObj m3 y3)
  have c8 := ((Hid.out C8).carry hB5).alloc (TmObj m3 y3)
  have c10 := ((Hid.out C10).carry hB5).alloc (TmObj m3 y3)
  have c11 := tmAtNew w5 m3 y3
  have h9 := timeEq m0 y0 (w5.alloc (TmObj m3 y3)) l0
  unfold Tm at h9
  clear C7 C8 C10 G1
  have G1 := Lib.hid hW2
  have C10 := Lib.hid c10
  have C11 := Lib.hid c11
  have L3 := Lib.hid hm3
  clear hB5 hG1 hG2 hW2 c10 c11 hm3 hy3 e2 e1 e0 l2 l1 l0 Y2 Y1 Y0 M2 M1 M0 R0
  obtain ⟨d0, d1, d2⟩ := c7
  obtain ⟨f0, f1, f2⟩ := c8
  unfold Tm
  go_wp2_with (go_at_call 9; refine h9.mono ?_; rintro e w6 ⟨rfl, hB6⟩; refine Hid.out ?_)
  refine Lib.hid ?_
  clear h9 d0 d1 d2 f0 f1 f2
  have hG1 := belowThen (Hid.out G1) hB6
  have h9 := timeEq m3 y3 w6 (Hid.out L3)
  unfold Tm at h9
  obtain ⟨d0, d1, d2⟩ := (Hid.out C10).carry hB6
  obtain ⟨f0, f1, f2⟩ := (Hid.out C11).carry hB6
  clear G1 C10 C11 hB6 L3
  have G1 := Lib.hid hG1
  clear hG1
  go_wp2_with (go_at_call 9; refine h9.mono ?_; rintro e w7 ⟨rfl, hB7⟩; refine Hid.out ?_)
  refine Lib.hid ?_
  clear h9 d0 d1 d2 f0 f1 f2
  have hG := belowThen (Hid.out G1) hB7
  have G2 := Lib.hid hG
  clear hG G1 hB7
  go_wp2_with fail
  go_ret
  exact ⟨rfl, Hid.out G2⟩
end Go.Proofs.Qxb6614591aFmt
