import Derived.Test.Qxb6614591aFmtTm
namespace Go.Proofs.Qxb6614591aFmt
open Go.RowKit

/-- time.Time: n nanoseconds within the second, x seconds. -/
def Tm (n : Nat) (x : Int) : Value := .agg #[.int .u64 (n : Int), .int .i64 x, .pointer none]
def tmCells (n : Nat) (x : Int) : Array Value := #[.int .u64 (n : Int), .int .i64 x, .pointer none]

set_option maxHeartbeats 400000 in
set_option maxRecDepth 20000 in
theorem addSec (b n : Nat) (x d : Int) (w : World) (h1 : n < 1000000000) (hx : -100000000000 ≤ x ∧ x ≤ 100000000000) (hd : -100000000000 ≤ d ∧ d ≤ 100000000000)
    (hc : w.cell? ⟨b, 0, none⟩ = some (.int .u64 (n : Int))) (hx1 : w.cell? ⟨b, 1, none⟩ = some (.int .i64 x)) (hf : w.frozen? ⟨b, 1, none⟩ = false) :
    Calls Tryf.prog 24 #[.pointer (some ⟨b, 0, none⟩), .int .i64 d] w fun e w' => e = .returned (.tuple #[]) ∧ w' = w.setCell ⟨b, 1, none⟩ (.int .i64 (x + d)) := by
  have e1 := and_top n h1
  have hwr : IntKind.i64.wrap (x + d) = x + d := by rw [IntKind.wrap_i64]; omega
  by_cases hpos : 0 < d
  · have hgt : x < x + d := by omega
    go_enter Tryf.func24, Tryf.ntmps24
    go_wp2
    go_end0
    exact ⟨rfl, rfl⟩
  · have hgt : ¬ x < x + d := by omega
    go_enter Tryf.func24, Tryf.ntmps24
    go_wp2
    go_end0
    exact ⟨rfl, rfl⟩

set_option maxHeartbeats 400000 in
set_option maxRecDepth 20000 in
theorem add_mid (n m : Nat) (x d D R : Int) (w : World) (h1 : n < 1000000000) (hx : -90000000000 ≤ x ∧ x ≤ 90000000000) (hD : -9300000000 ≤ D ∧ D ≤ 9300000000)
    (hq : Int.tdiv d 1000000000 = D) (hr : Int.tmod d 1000000000 = R) (hR : -1000000000 < R ∧ R < 1000000000) (hm : (m : Int) = (n : Int) + R) (hm1 : m < 1000000000) :
    Calls Tryf.prog 7 #[Tm n x, .int .i64 d] w fun e w' => e = .returned (Tm m (x + (D))) ∧ Below w.heap.size w w' := by
  show Calls Tryf.prog 7 #[.agg #[.int .u64 (n : Int), .int .i64 x, .pointer none], .int .i64 d] w _
  have h23 := nsec w.heap.size n ((w.alloc (.cells #[.int .u64 (n : Int), .int .i64 x, .pointer none] 25)).alloc (.cells #[.int .u64 0, .int .i64 0, .pointer none] 25)) h1 (by go_simp)
  have h24 := addSec w.heap.size m x (D) ((w.alloc (.cells #[.int .u64 (m : Int), .int .i64 x, .pointer none] 25)).alloc (.cells #[.int .u64 0, .int .i64 0, .pointer none] 25)) hm1 (by omega) (by omega) (by go_simp) (by go_simp) (by go_simp)
  rw [hm] at h24
  have e3 := andNot_low n h1
  have e2 : bits .and .u64 ((n : Int) + R) 9223372036854775808 = 0 := by rw [← hm]; exact and_top m hm1
  have e4 : bits .or .u64 0 ((n : Int) + R) = (n : Int) + R := by rw [← hm]; exact or_zero m hm1
  have b0 : wrap32 R = R := by unfold wrap32; omega
  have b1 : wrap32 ((n : Int) + R) = (n : Int) + R := by unfold wrap32; omega
  have b2 : IntKind.u64.wrap ((n : Int) + R) = (n : Int) + R := by rw [IntKind.wrap_u64]; omega
  have b3 : wrap64 D = D := by unfold wrap64; omega
  have hge : ¬ (1000000000 : Int) ≤ (n : Int) + R := by omega
  have hlt : ¬ (n : Int) + R < 0 := by omega
  have Hm := Lib.hid hm
  have Hm1 := Lib.hid hm1
  have H1 := Lib.hid h1
  have HR := Lib.hid hR
  have HxD := Lib.hid (And.intro hx hD)
  clear hm h1 hm1 hR hx hD
  go_enter Tryf.func7, Tryf.ntmps7
  go_wp2_with (go_at_call 23; refine h23.mono ?_; rintro e w1 ⟨rfl, hw1⟩; refine Hid.out ?_)
  refine Lib.hid ?_
  subst hw1
  clear h23
  go_wp2_with (go_at_call 24; refine h24.mono ?_; rintro e w1 ⟨rfl, hw1⟩; refine Hid.out ?_)
  refine Lib.hid ?_
  subst hw1
  clear h24
  go_wp2
  have hmE := Hm.out
  refine bodyPost_ret (v := .agg #[.int .u64 ((n : Int) + R), .int .i64 (x + (D)), .pointer none]) (by simp [results, Tryf.results7, go_sem]) rfl ?_
  refine ⟨?_, ((Below.refl _ w).alloc (Nat.le_refl _) _).alloc (by simp) _⟩
  unfold Tm
  rw [hmE]

set_option maxHeartbeats 400000 in
set_option maxRecDepth 20000 in
theorem add_up (n m : Nat) (x d D R : Int) (w : World) (h1 : n < 1000000000) (hx : -90000000000 ≤ x ∧ x ≤ 90000000000) (hD : -9300000000 ≤ D ∧ D ≤ 9300000000)
    (hq : Int.tdiv d 1000000000 = D) (hr : Int.tmod d 1000000000 = R) (hR : -1000000000 < R ∧ R < 1000000000) (hm : (m : Int) = (n : Int) + R - 1000000000) (hm1 : m < 1000000000) :
    Calls Tryf.prog 7 #[Tm n x, .int .i64 d] w fun e w' => e = .returned (Tm m (x + (D + 1))) ∧ Below w.heap.size w w' := by
  show Calls Tryf.prog 7 #[.agg #[.int .u64 (n : Int), .int .i64 x, .pointer none], .int .i64 d] w _
  have h23 := nsec w.heap.size n ((w.alloc (.cells #[.int .u64 (n : Int), .int .i64 x, .pointer none] 25)).alloc (.cells #[.int .u64 0, .int .i64 0, .pointer none] 25)) h1 (by go_simp)
  have h24 := addSec w.heap.size m x (D + 1) ((w.alloc (.cells #[.int .u64 (m : Int), .int .i64 x, .pointer none] 25)).alloc (.cells #[.int .u64 0, .int .i64 0, .pointer none] 25)) hm1 (by omega) (by omega) (by go_simp) (by go_simp) (by go_simp)
  rw [hm] at h24
  have e3 := andNot_low n h1
  have e2 : bits .and .u64 ((n : Int) + R - 1000000000) 9223372036854775808 = 0 := by rw [← hm]; exact and_top m hm1
  have e4 : bits .or .u64 0 ((n : Int) + R - 1000000000) = (n : Int) + R - 1000000000 := by rw [← hm]; exact or_zero m hm1
  have b0 : wrap32 R = R := by unfold wrap32; omega
  have b1 : wrap32 ((n : Int) + R) = (n : Int) + R := by unfold wrap32; omega
  have b2 : IntKind.u64.wrap ((n : Int) + R - 1000000000) = (n : Int) + R - 1000000000 := by rw [IntKind.wrap_u64]; omega
  have b3 : wrap64 D = D := by unfold wrap64; omega
  have hge : (1000000000 : Int) ≤ (n : Int) + R := by omega
  have b4 : wrap32 ((n : Int) + R - 1000000000) = (n : Int) + R - 1000000000 := by unfold wrap32; omega
  have b5 : wrap64 (D + 1) = D + 1 := by unfold wrap64; omega
  have Hm := Lib.hid hm
  have Hm1 := Lib.hid hm1
  have H1 := Lib.hid h1
  have HR := Lib.hid hR
  have HxD := Lib.hid (And.intro hx hD)
  clear hm h1 hm1 hR hx hD
  go_enter Tryf.func7, Tryf.ntmps7
  go_wp2_with (go_at_call 23; refine h23.mono ?_; rintro e w1 ⟨rfl, hw1⟩; refine Hid.out ?_)
  refine Lib.hid ?_
  subst hw1
  clear h23
  go_wp2_with (go_at_call 24; refine h24.mono ?_; rintro e w1 ⟨rfl, hw1⟩; refine Hid.out ?_)
  refine Lib.hid ?_
  subst hw1
  clear h24
  go_wp2
  have hmE := Hm.out
  refine bodyPost_ret (v := .agg #[.int .u64 ((n : Int) + R - 1000000000), .int .i64 (x + (D + 1)), .pointer none]) (by simp [results, Tryf.results7, go_sem]) rfl ?_
  refine ⟨?_, ((Below.refl _ w).alloc (Nat.le_refl _) _).alloc (by simp) _⟩
  unfold Tm
  rw [hmE]

set_option maxHeartbeats 400000 in
set_option maxRecDepth 20000 in
theorem add_down (n m : Nat) (x d D R : Int) (w : World) (h1 : n < 1000000000) (hx : -90000000000 ≤ x ∧ x ≤ 90000000000) (hD : -9300000000 ≤ D ∧ D ≤ 9300000000)
    (hq : Int.tdiv d 1000000000 = D) (hr : Int.tmod d 1000000000 = R) (hR : -1000000000 < R ∧ R < 1000000000) (hm : (m : Int) = (n : Int) + R + 1000000000) (hm1 : m < 1000000000) :
    Calls Tryf.prog 7 #[Tm n x, .int .i64 d] w fun e w' => e = .returned (Tm m (x + (D - 1))) ∧ Below w.heap.size w w' := by
  show Calls Tryf.prog 7 #[.agg #[.int .u64 (n : Int), .int .i64 x, .pointer none], .int .i64 d] w _
  have h23 := nsec w.heap.size n ((w.alloc (.cells #[.int .u64 (n : Int), .int .i64 x, .pointer none] 25)).alloc (.cells #[.int .u64 0, .int .i64 0, .pointer none] 25)) h1 (by go_simp)
  have h24 := addSec w.heap.size m x (D - 1) ((w.alloc (.cells #[.int .u64 (m : Int), .int .i64 x, .pointer none] 25)).alloc (.cells #[.int .u64 0, .int .i64 0, .pointer none] 25)) hm1 (by omega) (by omega) (by go_simp) (by go_simp) (by go_simp)
  rw [hm] at h24
  have e3 := andNot_low n h1
  have e2 : bits .and .u64 ((n : Int) + R + 1000000000) 9223372036854775808 = 0 := by rw [← hm]; exact and_top m hm1
  have e4 : bits .or .u64 0 ((n : Int) + R + 1000000000) = (n : Int) + R + 1000000000 := by rw [← hm]; exact or_zero m hm1
  have b0 : wrap32 R = R := by unfold wrap32; omega
  have b1 : wrap32 ((n : Int) + R) = (n : Int) + R := by unfold wrap32; omega
  have b2 : IntKind.u64.wrap ((n : Int) + R + 1000000000) = (n : Int) + R + 1000000000 := by rw [IntKind.wrap_u64]; omega
  have b3 : wrap64 D = D := by unfold wrap64; omega
  have hge : ¬ (1000000000 : Int) ≤ (n : Int) + R := by omega
  have hlt : (n : Int) + R < 0 := by omega
  have b4 : wrap32 ((n : Int) + R + 1000000000) = (n : Int) + R + 1000000000 := by unfold wrap32; omega
  have b5 : wrap64 (D - 1) = D - 1 := by unfold wrap64; omega
  have Hm := Lib.hid hm
  have Hm1 := Lib.hid hm1
  have H1 := Lib.hid h1
  have HR := Lib.hid hR
  have HxD := Lib.hid (And.intro hx hD)
  clear hm h1 hm1 hR hx hD
  go_enter Tryf.func7, Tryf.ntmps7
  go_wp2_with (go_at_call 23; refine h23.mono ?_; rintro e w1 ⟨rfl, hw1⟩; refine Hid.out ?_)
  refine Lib.hid ?_
  subst hw1
  clear h23
  go_wp2_with (go_at_call 24; refine h24.mono ?_; rintro e w1 ⟨rfl, hw1⟩; refine Hid.out ?_)
  refine Lib.hid ?_
  subst hw1
  clear h24
  go_wp2
  have hmE := Hm.out
  refine bodyPost_ret (v := .agg #[.int .u64 ((n : Int) + R + 1000000000), .int .i64 (x + (D - 1)), .pointer none]) (by simp [results, Tryf.results7, go_sem]) rfl ?_
  refine ⟨?_, ((Below.refl _ w).alloc (Nat.le_refl _) _).alloc (by simp) _⟩
  unfold Tm
  rw [hmE]

/-- (time.Time).Add: the total of nanoseconds grows by d. -/
def Added (n : Nat) (x d : Int) (w : World) (e : Ending) (w' : World) : Prop := ∃ (m : Nat) (y : Int), e = .returned (Tm m y) ∧ m < 1000000000 ∧ y * 1000000000 + (m : Int) = x * 1000000000 + (n : Int) + d ∧ Below w.heap.size w w'

theorem timeAdd (n : Nat) (x d : Int) (w : World) (h1 : n < 1000000000) (hx : -90000000000 ≤ x ∧ x ≤ 90000000000) (hd : -9223372036854775808 ≤ d ∧ d ≤ 9223372036854775807) :
    Calls Tryf.prog 7 #[Tm n x, .int .i64 d] w (Added n x d w) := by
  have hsum : 1000000000 * Int.tdiv d 1000000000 + Int.tmod d 1000000000 = d := Int.mul_tdiv_add_tmod d 1000000000
  have hR1 : Int.tmod d 1000000000 < 1000000000 := Int.tmod_lt_of_pos d (by decide)
  have hR0 : -1000000000 < Int.tmod d 1000000000 := Int.lt_tmod_of_pos d (by decide)
  obtain ⟨D, hq⟩ : ∃ D, Int.tdiv d 1000000000 = D := ⟨_, rfl⟩
  obtain ⟨R, hr⟩ : ∃ R, Int.tmod d 1000000000 = R := ⟨_, rfl⟩
  rw [hq, hr] at hsum
  rw [hr] at hR0 hR1
  by_cases hup : 1000000000 ≤ (n : Int) + R
  · refine (add_up n ((n : Int) + R - 1000000000).toNat x d D R w h1 hx (by omega) hq hr ⟨hR0, hR1⟩ (by omega) (by omega)).mono ?_
    rintro e w' ⟨rfl, hb⟩
    exact ⟨_, _, rfl, by omega, by omega, hb⟩
  · by_cases hdn : (n : Int) + R < 0
    · refine (add_down n ((n : Int) + R + 1000000000).toNat x d D R w h1 hx (by omega) hq hr ⟨hR0, hR1⟩ (by omega) (by omega)).mono ?_
      rintro e w' ⟨rfl, hb⟩
      exact ⟨_, _, rfl, by omega, by omega, hb⟩
    · refine (add_mid n ((n : Int) + R).toNat x d D R w h1 hx (by omega) hq hr ⟨hR0, hR1⟩ (by omega) (by omega)).mono ?_
      rintro e w' ⟨rfl, hb⟩
      exact ⟨_, _, rfl, by omega, by omega, hb⟩
end Go.Proofs.Qxb6614591aFmt
