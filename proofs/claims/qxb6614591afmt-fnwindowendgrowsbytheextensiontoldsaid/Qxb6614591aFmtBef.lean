import Derived.Test.Qxb6614591aFmtEq
namespace Go.Proofs.Qxb6614591aFmt
open Go.RowKit

theorem and_two (n m : Nat) (h : n < 1000000000) (h' : m < 1000000000) : ∃ k : Nat, k < 1000000000 ∧ bits .and .u64 (n : Int) (m : Int) = (k : Int) := by
  refine ⟨n &&& m, Nat.lt_of_le_of_lt Nat.and_le_left h, ?_⟩
  unfold bits
  rw [ofNat64, ofNat64]
  show IntKind.u64.wrap (((BitVec.ofNat 64 n &&& BitVec.ofNat 64 m).toNat : Nat) : Int) = _
  rw [BitVec.toNat_and, BitVec.toNat_ofNat, BitVec.toNat_ofNat, Nat.mod_eq_of_lt (by omega), Nat.mod_eq_of_lt (by omega), IntKind.wrap_u64]
  have : n &&& m ≤ n := Nat.and_le_left
  omega

set_option maxHeartbeats 400000 in
set_option maxRecDepth 20000 in
theorem timeBefore (n m : Nat) (x y : Int) (w : World) (h1 : n < 1000000000) (h2 : m < 1000000000) (t : Bool) (ht : t = decide (x * 1000000000 + n < y * 1000000000 + m)) :
    Calls Tryf.prog 11 #[Tm n x, Tm m y] w fun e w' => e = .returned (.bool t) ∧ Below w.heap.size w w' := by
  show Calls Tryf.prog 11 #[.agg #[.int .u64 (n : Int), .int .i64 x, .pointer none], .agg #[.int .u64 (m : Int), .int .i64 y, .pointer none]] w _
  obtain ⟨k, hk, e1⟩ := and_two n m h1 h2
  have e2 := and_top k hk
  obtain ⟨W, hW⟩ : ∃ W, W = (w.alloc (.cells #[.int .u64 (n : Int), .int .i64 x, .pointer none] 25)).alloc (.cells #[.int .u64 (m : Int), .int .i64 y, .pointer none] 25) := ⟨_, rfl⟩
  have s1 := sec w.heap.size n x W h1 (by rw [hW]; go_simp) (by rw [hW]; go_simp)
  have s2 := sec (w.heap.size + 1) m y W h2 (by rw [hW]; go_simp) (by rw [hW]; go_simp)
  have t1 := nsec w.heap.size n W h1 (by rw [hW]; go_simp)
  have t2 := nsec (w.heap.size + 1) m W h2 (by rw [hW]; go_simp)
  subst hW
  by_cases hlt : x < y
  · have d1 : decide (x < y) = true := by simpa using hlt
    have ht' : t = true := by rw [ht]; simp; omega
    clear ht; subst ht'
    go_enter Tryf.func11, Tryf.ntmps11
    go_wp2_with (go_at_call 27; refine s1.mono ?_; rintro e w1 ⟨rfl, hw1⟩; refine Hid.out ?_)
    refine Lib.hid ?_
    subst hw1
    clear s1
    go_wp2_with (go_at_call 27; refine s2.mono ?_; rintro e w1 ⟨rfl, hw1⟩; refine Hid.out ?_)
    refine Lib.hid ?_
    subst hw1
    clear s2
    go_wp2
    go_ret
    exact ⟨rfl, ((Below.refl _ w).alloc (Nat.le_refl _) _).alloc (by simp) _⟩
  have d1 : decide (x < y) = false := by simpa using hlt
  by_cases heq : x = y
  · subst heq
    have ht' : t = decide ((n : Int) < m) := by rw [ht]; congr 1; simp
    clear ht hlt; subst ht'
    go_enter Tryf.func11, Tryf.ntmps11
    go_wp2_with (go_at_call 27; refine s1.mono ?_; rintro e w1 ⟨rfl, hw1⟩; refine Hid.out ?_)
    refine Lib.hid ?_
    subst hw1
    clear s1
    go_wp2_with (go_at_call 27; refine s2.mono ?_; rintro e w1 ⟨rfl, hw1⟩; refine Hid.out ?_)
    refine Lib.hid ?_
    subst hw1
    clear s2
    go_wp2_with (go_at_call 23; refine t1.mono ?_; rintro e w1 ⟨rfl, hw1⟩; refine Hid.out ?_)
    refine Lib.hid ?_
    subst hw1
    clear t1
    go_wp2_with (go_at_call 23; refine t2.mono ?_; rintro e w1 ⟨rfl, hw1⟩; refine Hid.out ?_)
    refine Lib.hid ?_
    subst hw1
    clear t2
    go_wp2_with fail
    go_ret
    refine ⟨by simp, ((Below.refl _ w).alloc (Nat.le_refl _) _).alloc (by simp) _⟩
  · have d2 : decide (x = y) = false := by simpa using heq
    have ht' : t = false := by rw [ht]; simp; omega
    clear ht; subst ht'
    go_enter Tryf.func11, Tryf.ntmps11
    go_wp2_with (go_at_call 27; refine s1.mono ?_; rintro e w1 ⟨rfl, hw1⟩; refine Hid.out ?_)
    refine Lib.hid ?_
    subst hw1
    clear s1
    go_wp2_with (go_at_call 27; refine s2.mono ?_; rintro e w1 ⟨rfl, hw1⟩; refine Hid.out ?_)
    refine Lib.hid ?_
    subst hw1
    clear s2
    go_wp2
    go_ret
    exact ⟨rfl, ((Below.refl _ w).alloc (Nat.le_refl _) _).alloc (by simp) _⟩
end Go.Proofs.Qxb6614591aFmt
