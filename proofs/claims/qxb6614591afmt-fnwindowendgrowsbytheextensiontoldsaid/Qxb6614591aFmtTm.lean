import Derived.Test.Qxb6614591aFmtRows
import Derived.WalkKit
import Derived.WalkSpells
import Derived.Lib.Hide
namespace Go.Proofs.Qxb6614591aFmt
open Go.RowKit

theorem ofNat64 (n : Nat) : BitVec.ofInt IntKind.u64.bits (n : Int) = BitVec.ofNat 64 n := by
  show BitVec.ofInt 64 (n : Int) = _
  exact BitVec.ofInt_natCast ..

theorem and_low (n : Nat) (h : n < 1000000000) : bits .and .u64 (n : Int) 1073741823 = (n : Int) := by
  unfold bits
  have e : BitVec.ofInt IntKind.u64.bits (1073741823 : Int) = BitVec.ofNat 64 1073741823 := ofNat64 1073741823
  rw [ofNat64, e]
  show IntKind.u64.wrap (((BitVec.ofNat 64 n &&& BitVec.ofNat 64 1073741823).toNat : Nat) : Int) = _
  rw [BitVec.toNat_and, BitVec.toNat_ofNat, BitVec.toNat_ofNat]
  have h1 : n % 2 ^ 64 = n := Nat.mod_eq_of_lt (by omega)
  have h2 : 1073741823 % 2 ^ 64 = 2 ^ 30 - 1 := by decide
  rw [h1, h2, Nat.and_two_pow_sub_one_eq_mod, Nat.mod_eq_of_lt (by omega), IntKind.wrap_u64]
  omega

theorem and_top (n : Nat) (h : n < 1000000000) : bits .and .u64 (n : Int) 9223372036854775808 = 0 := by
  unfold bits
  have e : BitVec.ofInt IntKind.u64.bits (9223372036854775808 : Int) = BitVec.ofNat 64 9223372036854775808 := ofNat64 9223372036854775808
  rw [ofNat64, e]
  show IntKind.u64.wrap (((BitVec.ofNat 64 n &&& BitVec.ofNat 64 9223372036854775808).toNat : Nat) : Int) = _
  have hz : BitVec.ofNat 64 n &&& BitVec.ofNat 64 9223372036854775808 = 0#64 := by
    apply BitVec.eq_of_getLsbD_eq
    intro i hi
    rw [BitVec.getLsbD_and]
    by_cases h30 : i < 30
    · have : (BitVec.ofNat 64 9223372036854775808).getLsbD i = false := by
        rw [BitVec.getLsbD_ofNat, show 9223372036854775808 = 2 ^ 63 by decide, Nat.testBit_two_pow]
        simp
        omega
      rw [this]; simp
    · have : (BitVec.ofNat 64 n).getLsbD i = false := by
        rw [BitVec.getLsbD_ofNat, Nat.testBit_lt_two_pow (Nat.lt_of_lt_of_le (show n < 2 ^ 30 by omega) (Nat.pow_le_pow_right (by decide) (by omega)))]
        simp
      rw [this]; simp
  rw [hz]
  decide

theorem andNot_low (n : Nat) (h : n < 1000000000) : bits .andNot .u64 (n : Int) 1073741823 = 0 := by
  unfold bits
  have e : BitVec.ofInt IntKind.u64.bits (1073741823 : Int) = BitVec.ofNat 64 1073741823 := ofNat64 1073741823
  rw [ofNat64, e]
  show IntKind.u64.wrap (((BitVec.ofNat 64 n &&& ~~~ BitVec.ofNat 64 1073741823).toNat : Nat) : Int) = _
  have hz : BitVec.ofNat 64 n &&& ~~~ BitVec.ofNat 64 1073741823 = 0#64 := by
    apply BitVec.eq_of_getLsbD_eq
    intro i hi
    rw [BitVec.getLsbD_and, BitVec.getLsbD_not]
    by_cases h30 : i < 30
    · have : (BitVec.ofNat 64 1073741823).getLsbD i = true := by
        rw [BitVec.getLsbD_ofNat, show 1073741823 = 2 ^ 30 - 1 by decide, Nat.testBit_two_pow_sub_one]
        simp [hi, h30]
      rw [this]; simp
    · have : (BitVec.ofNat 64 n).getLsbD i = false := by
        rw [BitVec.getLsbD_ofNat, Nat.testBit_lt_two_pow (Nat.lt_of_lt_of_le (show n < 2 ^ 30 by omega) (Nat.pow_le_pow_right (by decide) (by omega)))]
        simp
      rw [this]; simp
  rw [hz]
  decide

theorem or_zero (n : Nat) (h : n < 1000000000) : bits .or .u64 0 (n : Int) = (n : Int) := by
  unfold bits
  rw [ofNat64]
  show IntKind.u64.wrap (((BitVec.ofInt 64 0 ||| BitVec.ofNat 64 n).toNat : Nat) : Int) = _
  have e : BitVec.ofInt 64 0 = 0#64 := by decide
  rw [e, BitVec.zero_or, BitVec.toNat_ofNat, Nat.mod_eq_of_lt (by omega), IntKind.wrap_u64]
  omega

theorem nsec (b n : Nat) (w : World) (h1 : n < 1000000000) (hc : w.cell? ⟨b, 0, none⟩ = some (.int .u64 (n : Int))) :
    Calls Tryf.prog 23 #[.pointer (some ⟨b, 0, none⟩)] w fun e w' => e = .returned (.int .i32 (n : Int)) ∧ w' = w := by
  have e1 := and_low n h1
  have e2 : wrap32 (n : Int) = (n : Int) := by unfold wrap32; omega
  go_enter Tryf.func23, Tryf.ntmps23
  go_wp2
  go_ret
  exact ⟨rfl, rfl⟩

theorem sec (b n : Nat) (x : Int) (w : World) (h1 : n < 1000000000) (hc : w.cell? ⟨b, 0, none⟩ = some (.int .u64 (n : Int))) (hx : w.cell? ⟨b, 1, none⟩ = some (.int .i64 x)) :
    Calls Tryf.prog 27 #[.pointer (some ⟨b, 0, none⟩)] w fun e w' => e = .returned (.int .i64 x) ∧ w' = w := by
  have e1 := and_top n h1
  go_enter Tryf.func27, Tryf.ntmps27
  go_wp2
  go_ret
  exact ⟨rfl, rfl⟩
end Go.Proofs.Qxb6614591aFmt
