import Derived.Test.Qxb6614591aFmtStrs
namespace Go.Proofs.Qxb6614591aFmt
open Go.RowKit

set_option maxHeartbeats 1000000 in
set_option maxRecDepth 20000 in
theorem zzAddBytes (t : Nat) (ks : List ByteArray) (pk : Option Addr) (ck : Nat) (w : World) (ht : t ≤ 1048576) (hkl : ks.length ≤ 1048576) (hK : Strs pk ks w) (hks : ∀ s ∈ ks, s.size ≤ 9223372036854775807) :
    Calls Tryf.prog 13 #[.int .i64 (t : Int), .slice pk ks.length ck] w (fun e w' => ∃ r : Nat, e = .returned (.int .i64 (r : Int)) ∧ r ≤ 1048577 ∧ w' = w) := by
  have Hks := Lib.hid hks
  clear hks
  have Ht := Lib.hid ht
  clear ht
  go_enter Tryf.func13, Tryf.ntmps13
  go_wp2
  go_loopg [0, 5] ks.length (fun gk zv kv wr => ∃ k z : Nat, gk + k = ks.length ∧ kv = .int .i64 (k : Int) ∧ zv = .int .i64 (z : Int) ∧ z ≤ 1048576 ∧ w = wr)
  case atStart => exact ⟨0, t, by omega, rfl, rfl, Ht.out, rfl⟩
  case round =>
    obtain ⟨k, z, hk, rfl, rfl, hz, hw⟩ := hrel
    subst hw
    have Hk := Lib.hid hk
    have hzi : (z : Int) ≤ 1048576 := by omega
    clear hk
    by_cases hlt : k < ks.length
    · have hqk : ks[k]? = some ks[k] := List.getElem?_eq_getElem hlt
      generalize ks[k] = q at hqk
      have hlti : (k : Int) < (ks.length : Int) := by omega
      have hk0 : (0 : Int) ≤ (k : Int) := by omega
      have hs1 := Hks.out q (List.mem_of_getElem? hqk)
      rcases hK with he | ⟨qb, qo, rfl, hqb, hc⟩
      · rw [he] at hqk; simp at hqk
      have a0 := hc k _ hqk
      clear hc hqk
      have b1 : wrap64 (1048576 - (z : Int)) = 1048576 - (z : Int) := by unfold wrap64; omega
      have b2 : wrap64 (1048576 - (z : Int) - 16) = 1048576 - (z : Int) - 16 := by unfold wrap64; omega
      by_cases t1 : (q.size : Int) ≤ 1048576 - (z : Int) - 16
      · have t1n : ¬ 1048576 - (z : Int) - 16 < (q.size : Int) := by omega
        have t1d : decide (1048576 - (z : Int) - 16 < (q.size : Int)) = false := by simpa using t1
        go_wp2
        go_roundg (gk - 1)
        case measure => have := Hk.out; omega
        case rel => exact ⟨k + 1, z + q.size + 16, by have := Hk.out; omega, by go_num, by go_num, by omega, rfl⟩
      · have t1n : 1048576 - (z : Int) - 16 < (q.size : Int) := by omega
        have t1d : decide (1048576 - (z : Int) - 16 < (q.size : Int)) = true := by simpa using t1n
        go_wp2
        go_ret
        exact ⟨1048577, rfl, by omega, rfl⟩
    · have hleq : (ks.length : Int) ≤ (k : Int) := by have := Hk.out; omega
      go_wp2
      go_ret
      exact ⟨z, rfl, by omega, rfl⟩
end Go.Proofs.Qxb6614591aFmt
