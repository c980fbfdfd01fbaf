import Derived.Test.Qxb6614442aDoorRows
import Derived.WalkKit
import Derived.WalkSpells
import Derived.WalkLawsBesides
import Derived.BigQuiet
import Derived.Deep.QuietTactic
namespace Go.Proofs.Qxb6614442aDoor
open Go.RowKit

set_option maxHeartbeats 1000000 in
theorem readNum_pos (g cap n pos m : Nat) (pre : Int) (A D : Nat → Int) (w : World) (hn : n ≤ 9223372036854775807) (hlen : pos + 1 + m + 2 ≤ n) (hm : 1 ≤ m)
    (hpre : w.cell? ⟨g, pos, none⟩ = some (.int .u8 pre))
    (hdig : ∀ k, k < m → w.cell? ⟨g, pos + 1 + k, none⟩ = some (.int .u8 (48 + D k)))
    (hD : ∀ k, 0 ≤ D k ∧ D k ≤ 9) (hA0 : A 0 = 0) (hAs : ∀ k, k < m → A (k + 1) = A k * 10 + D k)
    (hAb : ∀ k, k ≤ m → 0 ≤ A k ∧ A k ≤ 9223372036854775807)
    (hlead : 1 < m → 1 ≤ D 0)
    (h13 : w.cell? ⟨g, pos + 1 + m, none⟩ = some (.int .u8 13)) (h10 : w.cell? ⟨g, pos + 1 + m + 1, none⟩ = some (.int .u8 10)) :
    Calls Tryd.prog 12 #[.slice (some ⟨g, 0, none⟩) n cap, .int .i64 pos, .int .u8 pre] w fun e w' => e = .returned (.tuple #[.int .i64 (A m), .int .i64 (pos + 1 + m + 2 : Nat), .bool true]) ∧ w' = w := by
  have hd0 := hdig 0 (by omega)
  have hD0 := hD 0
  simp only [Nat.add_zero] at hd0
  have hb1 : decide ((pos : Int) < 0) = false := by simp
  have hb2 : (48 + D 0 == 45) = false := by rw [beq_eq_false_iff_ne]; omega
  go_enter Tryd.func12, Tryd.ntmps12
  go_wp2
  go_loop [9, 13] (fun i mag => ∃ k : Nat, k ≤ m ∧ i = .int .i64 ((pos + 1 + k : Nat) : Int) ∧ ∃ a : Int, Hid (a = A k) ∧ mag = .int .u64 a) (fun i _ => pos + 1 + m - (intOf i).toNat)
  case atStart => exact ⟨0, Nat.zero_le _, by go_num, 0, hA0.symm, rfl⟩
  case round =>
    obtain ⟨k, hk, rfl, a, ha, rfl⟩ := hrel
    have hab := hAb k hk
    rw [← ha.out] at hab
    by_cases hlt : k < m
    · have hdk := hdig k hlt
      have hDk := hD k
      have hs := hAs k hlt
      rw [← ha.out] at hs
      have hab' := hAb (k + 1) hlt
      rw [hs] at hab'
      have hs' : Hid (a * 10 + D k = A (k + 1)) := hs.symm
      clear hs
      generalize D k = d at *
      have ht : ¬ ((9223372036854775807 - d) / 10 < a) := by omega
      clear hdig hD hAs hAb h13 h10 hpre hlead hd0 
      go_wp2
      case roundEnd =>
        refine ⟨⟨k + 1, hlt, by go_num, a * 10 + d, hs', by rw [show (48 + d - 48 : Int) = d by omega]⟩, ?_⟩
        simp [intOf]; omega
    · obtain rfl : k = m := by omega
      have hb3 : ((k : Int) == 0) = false := by rw [beq_eq_false_iff_ne]; omega
      clear hdig hD hAs hAb hpre
      have hfin : ∀ x y : Int, x = A k → y = ((pos + 1 + k + 2 : Nat) : Int) → Ending.returned (.tuple #[.int .i64 x, .int .i64 y, .bool true]) = .returned (.tuple #[.int .i64 (A k), .int .i64 (pos + 1 + k + 2 : Nat), .bool true]) := by
        rintro x y rfl rfl; rfl
      by_cases h1 : 1 < k
      · have hl := hlead h1
        have hb4 : (48 + D 0 == 48) = false := by rw [beq_eq_false_iff_ne]; omega
        go_wp2
        go_ret3
        exact ⟨hfin _ _ ha.out (by omega), rfl⟩
      · go_wp2
        go_ret3
        exact ⟨hfin _ _ ha.out (by omega), rfl⟩

theorem neg_wrap (a : Int) (h0 : 1 ≤ a) (h1 : a ≤ 9223372036854775808) : wrap64 (IntKind.u64.wrap (-a)) = -a := by
  rw [IntKind.wrap_u64]; unfold wrap64; omega

set_option maxHeartbeats 1000000 in
theorem readNum_neg (g cap n pos m : Nat) (pre : Int) (A D : Nat → Int) (w : World) (hn : n ≤ 9223372036854775807) (hlen : pos + 2 + m + 2 ≤ n) (hm : 1 ≤ m)
    (hpre : w.cell? ⟨g, pos, none⟩ = some (.int .u8 pre)) (hmin : w.cell? ⟨g, pos + 1, none⟩ = some (.int .u8 45))
    (hdig : ∀ k, k < m → w.cell? ⟨g, pos + 2 + k, none⟩ = some (.int .u8 (48 + D k)))
    (hD : ∀ k, 0 ≤ D k ∧ D k ≤ 9) (hA0 : A 0 = 0) (hAs : ∀ k, k < m → A (k + 1) = A k * 10 + D k)
    (hAb : ∀ k, k ≤ m → 0 ≤ A k ∧ A k ≤ 9223372036854775808) (hAm : 1 ≤ A m)
    (hlead : 1 < m → 1 ≤ D 0)
    (h13 : w.cell? ⟨g, pos + 2 + m, none⟩ = some (.int .u8 13)) (h10 : w.cell? ⟨g, pos + 2 + m + 1, none⟩ = some (.int .u8 10)) :
    Calls Tryd.prog 12 #[.slice (some ⟨g, 0, none⟩) n cap, .int .i64 pos, .int .u8 pre] w fun e w' => e = .returned (.tuple #[.int .i64 (-A m), .int .i64 (pos + 2 + m + 2 : Nat), .bool true]) ∧ w' = w := by
  have hd0 := hdig 0 (by omega)
  have hD0 := hD 0
  simp only [Nat.add_zero] at hd0
  have hb1 : decide ((pos : Int) < 0) = false := by simp
  go_enter Tryd.func12, Tryd.ntmps12
  go_wp2
  go_loop [9, 13] (fun i mag => ∃ k : Nat, k ≤ m ∧ i = .int .i64 ((pos + 2 + k : Nat) : Int) ∧ ∃ a : Int, Hid (a = A k) ∧ mag = .int .u64 a) (fun i _ => pos + 2 + m - (intOf i).toNat)
  case atStart => exact ⟨0, Nat.zero_le _, by go_num, 0, hA0.symm, rfl⟩
  case round =>
    obtain ⟨k, hk, rfl, a, ha, rfl⟩ := hrel
    have hab := hAb k hk
    rw [← ha.out] at hab
    by_cases hlt : k < m
    · have hdk := hdig k hlt
      have hDk := hD k
      have hs := hAs k hlt
      rw [← ha.out] at hs
      have hab' := hAb (k + 1) hlt
      rw [hs] at hab'
      have hs' : Hid (a * 10 + D k = A (k + 1)) := hs.symm
      clear hs
      generalize D k = d at *
      have ht : ¬ ((9223372036854775808 - d) / 10 < a) := by omega
      clear hdig hD hAs hAb h13 h10 hpre hlead hd0 hmin
      go_wp2
      case roundEnd =>
        refine ⟨⟨k + 1, hlt, by go_num, a * 10 + d, hs', by rw [show (48 + d - 48 : Int) = d by omega]⟩, ?_⟩
        simp [intOf]; omega
    · obtain rfl : k = m := by omega
      rw [← ha.out] at hAm
      have hb3 : ((k : Int) == 0) = false := by rw [beq_eq_false_iff_ne]; omega
      have hb5 : (a == 0) = false := by rw [beq_eq_false_iff_ne]; omega
      have HW : Hid (wrap64 (IntKind.u64.wrap (-a)) = -a) := neg_wrap a hAm hab.2
      clear hdig hD hAs hAb hpre hmin
      have hfin : ∀ x y : Int, x = - A k → y = ((pos + 2 + k + 2 : Nat) : Int) → Ending.returned (.tuple #[.int .i64 x, .int .i64 y, .bool true]) = .returned (.tuple #[.int .i64 (-A k), .int .i64 (pos + 2 + k + 2 : Nat), .bool true]) := by
        rintro x y rfl rfl; rfl
      by_cases h1 : 1 < k
      · have hl := hlead h1
        have hb4 : (48 + D 0 == 48) = false := by rw [beq_eq_false_iff_ne]; omega
        go_wp2
        go_ret3
        refine ⟨hfin _ _ ?_ (by omega), rfl⟩
        exact HW.out.trans (by rw [ha.out])
      · go_wp2
        go_ret3
        refine ⟨hfin _ _ ?_ (by omega), rfl⟩
        exact HW.out.trans (by rw [ha.out])
end Go.Proofs.Qxb6614442aDoor
