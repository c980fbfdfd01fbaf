import Derived.Test.Qxb6614591aFmtLawa
import Derived.Test.Qxb6614591aFmtSub
namespace Go.Proofs.Qxb6614591aFmt
open Go.RowKit Go.Extern.Stop Go.Stop Go.Extern

set_option maxHeartbeats 800000 in
set_option maxRecDepth 20000 in
theorem law4 (F : Interp) (c a b : Int) (w : World) (hF : F.answers w.tape) (hAB : (sprA F).size + (sprB F).size ≤ 9223372036854775807)
    (hc : -9223372036854775808 ≤ c ∧ c ≤ 9223372036854775807) (ha : -2305843009213693952 ≤ a ∧ a ≤ 2305843009213693952) (hb : -2305843009213693952 ≤ b ∧ b ≤ 2305843009213693952) :
    Calls Tryf.prog 4 #[.int .i64 c, .int .i64 a, .int .i64 b] w fun e w' => e = .returned (.bool true) ∧ Below w.heap.size w w' := by
  have a1 : decide (a < -2305843009213693952) = false := by simp; omega
  have a2 : decide (2305843009213693952 < a) = false := by simp; omega
  have a3 : decide (b < -2305843009213693952) = false := by simp; omega
  have a4 : decide (2305843009213693952 < b) = false := by simp; omega
  have h7 := timeAdd 0 0 c w (by omega) (by omega) hc
  unfold Tm at h7
  go_enter Tryf.func4, Tryf.ntmps4
  go_wp2_with (go_at_call 7; refine h7.mono ?_; rintro e w1 ⟨m0, y0, rfl, hm0, hy0, hB1⟩; refine Hid.out ?_)
  refine Lib.hid ?_
  clear h7
  have hW1 := belowNew hB1 (TmObj m0 y0)
  have c7 := tmAtNew w1 m0 y0
  have hT1 : F.answers (w1.alloc (TmObj m0 y0)).tape := by rw [hW1.tape]; exact hF
  have hy0' : -10000000000 ≤ y0 ∧ y0 ≤ 10000000000 := by omega
  have h8 := zzEnd0 F m0 y0 0 (w1.alloc (TmObj m0 y0)) hT1 hm0 (by omega)
  unfold Tm at h8
  have G1 := Lib.hid hW1
  have C7 := Lib.hid c7
  have M0 := Lib.hid hm0
  have R0 := Lib.hid hy0'
  clear hB1 hW1 c7 hT1 hm0 hy0 hy0'
  unfold Tm
  go_wp2_with (go_at_call 8; refine h8.mono ?_; rintro e w2 ⟨rfl, hB2⟩; refine Hid.out ?_)
  refine Lib.hid ?_
  clear h8
  have hG1 := Hid.out G1
  have hG2 := belowThen hG1 hB2
  have hW2 := belowNew hG2 (TmObj m0 y0)
  have c7 := ((Hid.out C7).carry hB2).alloc (TmObj m0 y0)
  have c8 := tmAtNew w2 m0 y0
  have hT2 : F.answers (w2.alloc (TmObj m0 y0)).tape := by rw [hW2.tape]; exact hF
  have hr0 := Hid.out R0
  have h8 := zzEnd1 F m0 y0 0 (w2.alloc (TmObj m0 y0)) hT2 hAB (by omega) (Hid.out M0) (by omega)
  unfold Tm at h8
  clear C7 G1
  have G1 := Lib.hid hW2
  have C7 := Lib.hid c7
  have C8 := Lib.hid c8
  clear hB2 hG1 hG2 hW2 c8 hT2 hr0
  obtain ⟨d0, d1, d2⟩ := (Hid.out C7)
  clear c7
  go_wp2_with (go_at_call 8; refine h8.mono ?_; rintro e w3 ⟨m1, y1, rfl, hm1, hy1, hB3⟩; refine Hid.out ?_)
  refine Lib.hid ?_
  clear h8 d0 d1 d2
  have ey : y0 = y1 := by have := Hid.out M0; omega
  have em : m0 = m1 := by have := Hid.out M0; omega
  subst ey em
  have hG1 := Hid.out G1
  have hG2 := belowThen hG1 hB3
  have hW2 := belowNew hG2 (TmObj m0 y0)
  have c7 := ((Hid.out C7).carry hB3).alloc (TmObj m0 y0)
  have c8 := ((Hid.out C8).carry hB3).alloc (TmObj m0 y0)
  have c9 := tmAtNew w3 m0 y0
  have hT2 : F.answers (w3.alloc (TmObj m0 y0)).tape := by rw [hW2.tape]; exact hF
  have hr0 := Hid.out R0
  have h8 := zzEnd1 F m0 y0 a (w3.alloc (TmObj m0 y0)) hT2 hAB (by omega) (Hid.out M0) (by omega)
  unfold Tm at h8
  clear C7 C8 G1
  have G1 := Lib.hid hW2
  have C7 := Lib.hid c7
  have C8 := Lib.hid c8
  have C9 := Lib.hid c9
  clear hB3 hG1 hG2 hW2 c7 c8 c9 hT2 hr0 hm1 hy1
  obtain ⟨d0, d1, d2⟩ := (Hid.out C7)
  unfold Tm
  go_wp2_with (go_at_call 8; refine h8.mono ?_; rintro e w4 ⟨m2, y2, rfl, hm2, hy2, hB4⟩; refine Hid.out ?_)
  refine Lib.hid ?_
  clear h8 d0 d1 d2
  have hG1 := Hid.out G1
  have hG2 := belowThen hG1 hB4
  have hW2 := belowNew hG2 (TmObj m2 y2)
  have c7 := ((Hid.out C7).carry hB4).alloc (TmObj m2 y2)
  have c8 := ((Hid.out C8).carry hB4).alloc (TmObj m2 y2)
  have c9 := ((Hid.out C9).carry hB4).alloc (TmObj m2 y2)
  have c10 := tmAtNew w4 m2 y2
  have hT2 : F.answers (w4.alloc (TmObj m2 y2)).tape := by rw [hW2.tape]; exact hF
  have hr0 := Hid.out R0
  have h8 := zzEnd1 F m0 y0 b (w4.alloc (TmObj m2 y2)) hT2 hAB (by omega) (Hid.out M0) (by omega)
  unfold Tm at h8
  clear C7 C8 C9 G1
  have G1 := Lib.hid hW2
  have C7 := Lib.hid c7
  have C8 := Lib.hid c8
  have C9 := Lib.hid c9
  have C10 := Lib.hid c10
  have Y2 := Lib.hid hy2
  have M2 := Lib.hid hm2
  clear hB4 hG1 hG2 hW2 c7 c8 c9 c10 hT2 hr0 hm2 hy2
  obtain ⟨d0, d1, d2⟩ := (Hid.out C7)
  unfold Tm
  go_wp2_with (go_at_call 8; refine h8.mono ?_; rintro e w5 ⟨m3, y3, rfl, hm3, hy3, hB5⟩; refine Hid.out ?_)
  refine Lib.hid ?_
  clear h8 d0 d1 d2
  have hG1 := Hid.out G1
  have hG2 := belowThen hG1 hB5
  have hW2 := belowNew hG2 (TmObj m3 y3)
  have c7 := ((Hid.out C7).carry hB5).alloc (TmObj m3 y3)
  have c8 := ((Hid.out C8).carry hB5).alloc (TmObj m3 y3)
  have c9 := ((Hid.out C9).carry hB5).alloc (TmObj m3 y3)
  have c10 := ((Hid.out C10).carry hB5).alloc (TmObj m3 y3)
  have c11 := tmAtNew w5 m3 y3
  have h9 := timeEq m0 y0 (w5.alloc (TmObj m3 y3)) (Hid.out M0)
  unfold Tm at h9
  clear C7 C8 C9 C10 G1
  have G1 := Lib.hid hW2
  have C8 := Lib.hid c8
  have C9 := Lib.hid c9
  have C10 := Lib.hid c10
  have C11 := Lib.hid c11
  have M3 := Lib.hid hm3
  have Y3 := Lib.hid hy3
  clear hB5 hG1 hG2 hW2 c9 c10 c11 hm3 hy3
  obtain ⟨d0, d1, d2⟩ := c7
  obtain ⟨f0, f1, f2⟩ := c8
  unfold Tm
  go_wp2_with (go_at_call 9; refine h9.mono ?_; rintro e w6 ⟨rfl, hB6⟩; refine Hid.out ?_)
  refine Lib.hid ?_
  clear h9 d0 d1 d2 f0 f1 f2
  have hG1 := belowThen (Hid.out G1) hB6
  have h9 := timeEq m0 y0 w6 (Hid.out M0)
  unfold Tm at h9
  obtain ⟨d0, d1, d2⟩ := (Hid.out C8).carry hB6
  obtain ⟨f0, f1, f2⟩ := (Hid.out C9).carry hB6
  have c10 := (Hid.out C10).carry hB6
  have c11 := (Hid.out C11).carry hB6
  clear G1 C8 C9 C10 C11 hB6
  have G1 := Lib.hid hG1
  have C10 := Lib.hid c10
  have C11 := Lib.hid c11
  clear hG1 c10 c11
  go_wp2_with (go_at_call 9; refine h9.mono ?_; rintro e w7 ⟨rfl, hB7⟩; refine Hid.out ?_)
  refine Lib.hid ?_
  clear h9 d0 d1 d2 f0 f1 f2
  have hG1 := belowThen (Hid.out G1) hB7
  have e2 := Hid.out Y2
  have e3 := Hid.out Y3
  have l0 := Hid.out M0
  have l2 := Hid.out M2
  have l3 := Hid.out M3
  have r0 := Hid.out R0
  have h10 := timeSub m3 m2 y3 y2 (b - a) w7 l3 l2 (by omega) (by omega) (by omega)
  unfold Tm at h10
  have hwr : IntKind.i64.wrap (b - a) = b - a := by rw [IntKind.wrap_i64]; omega
  have hwr' : wrap64 (b - a) = b - a := by unfold wrap64; omega
  have c10 := (Hid.out C10).carry hB7
  have c11 := (Hid.out C11).carry hB7
  clear G1 C10 C11 hB7 e2 e3 l0 l2 l3 r0
  have G1 := Lib.hid hG1
  have C10 := Lib.hid c10
  have C11 := Lib.hid c11
  obtain ⟨d0, d1, d2⟩ := c10
  obtain ⟨f0, f1, f2⟩ := c11
  clear hG1
  go_wp2_with (go_at_call 10; refine h10.mono ?_; rintro e w8 ⟨rfl, hB8⟩; refine Hid.out ?_)
  refine Lib.hid ?_
  clear h10 d0 d1 d2 f0 f1 f2
  have hG1 := belowThen (Hid.out G1) hB8
  obtain ⟨d0, d1, d2⟩ := (Hid.out C10).carry hB8
  obtain ⟨f0, f1, f2⟩ := (Hid.out C11).carry hB8
  have e2 := Hid.out Y2
  have e3 := Hid.out Y3
  have l2 := Hid.out M2
  have l3 := Hid.out M3
  clear G1 hB8 C10 C11
  have G1 := Lib.hid hG1
  clear hG1
  by_cases hle : a ≤ b
  · have hdec : decide (a ≤ b) = true := by simpa using hle
    have h11 := timeBefore m3 m2 y3 y2 w8 l3 l2 false (by symm; simp; omega)
    unfold Tm at h11
    clear e2 e3 l2 l3
    go_wp2_with (go_at_call 11; refine h11.mono ?_; rintro e w9 ⟨rfl, hB9⟩; refine Hid.out ?_)
    refine Lib.hid ?_
    clear h11
    have hG := belowThen (Hid.out G1) hB9
    have G2 := Lib.hid hG
    clear hG G1 hB9
    go_wp2_with fail
    go_ret
    exact ⟨rfl, Hid.out G2⟩
  · have hdec : decide (a ≤ b) = false := by simpa using hle
    have h11 := timeBefore m3 m2 y3 y2 w8 l3 l2 true (by symm; simp; omega)
    unfold Tm at h11
    clear e2 e3 l2 l3
    go_wp2_with (go_at_call 11; refine h11.mono ?_; rintro e w9 ⟨rfl, hB9⟩; refine Hid.out ?_)
    refine Lib.hid ?_
    clear h11
    have hG := belowThen (Hid.out G1) hB9
    have G2 := Lib.hid hG
    clear hG G1 hB9
    go_wp2_with fail
    go_ret
    exact ⟨rfl, Hid.out G2⟩
end Go.Proofs.Qxb6614591aFmt
