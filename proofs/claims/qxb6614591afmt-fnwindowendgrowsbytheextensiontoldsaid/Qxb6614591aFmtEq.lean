import Derived.Test.Qxb6614591aFmtAdd
namespace Go.Proofs.Qxb6614591aFmt
open Go.RowKit

theorem and_same (n : Nat) (h : n < 1000000000) : bits .and .u64 (n : Int) (n : Int) = (n : Int) := by
  unfold bits
  rw [ofNat64]
  show IntKind.u64.wrap (((BitVec.ofNat 64 n &&& BitVec.ofNat 64 n).toNat : Nat) : Int) = _
  rw [BitVec.and_self, BitVec.toNat_ofNat, Nat.mod_eq_of_lt (by omega), IntKind.wrap_u64]
  omega

set_option maxHeartbeats 400000 in
set_option maxRecDepth 20000 in
theorem timeEq (n : Nat) (x : Int) (w : World) (h1 : n < 1000000000) :
    Calls Tryf.prog 9 #[Tm n x, Tm n x] w fun e w' => e = .returned (.bool true) ∧ Below w.heap.size w w' := by
  show Calls Tryf.prog 9 #[.agg #[.int .u64 (n : Int), .int .i64 x, .pointer none], .agg #[.int .u64 (n : Int), .int .i64 x, .pointer none]] w _
  have e1 := and_same n h1
  have e2 := and_top n h1
  obtain ⟨W, hW⟩ : ∃ W, W = (w.alloc (.cells #[.int .u64 (n : Int), .int .i64 x, .pointer none] 25)).alloc (.cells #[.int .u64 (n : Int), .int .i64 x, .pointer none] 25) := ⟨_, rfl⟩
  have s1 := sec w.heap.size n x W h1 (by rw [hW]; go_simp) (by rw [hW]; go_simp)
  have s2 := sec (w.heap.size + 1) n x W h1 (by rw [hW]; go_simp) (by rw [hW]; go_simp)
  have t1 := nsec w.heap.size n W h1 (by rw [hW]; go_simp)
  have t2 := nsec (w.heap.size + 1) n W h1 (by rw [hW]; go_simp)
  subst hW
  go_enter Tryf.func9, Tryf.ntmps9
  go_wp2_with (go_at_call 27; refine s1.mono ?_; rintro e w1 ⟨rfl, hw1⟩; refine Hid.out ?_)
  refine Lib.hid ?_
  subst hw1
  clear s1
  go_wp2_with (go_at_call 27; refine s2.mono ?_; rintro e w1 ⟨rfl, hw1⟩; refine Hid.out ?_)
  refine Lib.hid ?_
  subst hw1
  clear s2
  go_wp2_with (go_at_call 23; refine t1.mono ?_; rintro e w1 ⟨rfl, hw1⟩; refine Hid.out ?_)
  refine Lib.hid ?_
  subst hw1
  clear t1
  go_wp2_with (go_at_call 23; refine t2.mono ?_; rintro e w1 ⟨rfl, hw1⟩; refine Hid.out ?_)
  refine Lib.hid ?_
  subst hw1
  clear t2
  go_wp2
  go_ret
  exact ⟨rfl, ((Below.refl _ w).alloc (Nat.le_refl _) _).alloc (by simp) _⟩
end Go.Proofs.Qxb6614591aFmt
