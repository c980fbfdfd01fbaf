import Derived.Test.Qxb6614591aFmtStrs
namespace Go.Proofs.Qxb6614591aFmt
open Go.RowKit

set_option maxHeartbeats 4000000 in
set_option maxRecDepth 20000 in
theorem zzBytes19 (ks ls : List ByteArray) (pk pl : Option Addr) (ck cl : Nat) (j : Int) (x : ByteArray) (hx : x.size ≤ 9223372036854775807) (f : Bool) (w : World) (hkl : ks.length ≤ 9223372036854775807) (hll : ls.length ≤ 9223372036854775807) (hK : Strs pk ks w) (hL : Strs pl ls w)
    (hks : ∀ s ∈ ks, s.size ≤ 9223372036854775807) (hls : ∀ s ∈ ls, s.size ≤ 9223372036854775807) :
    Calls Tryf.prog 19 #[.slice pk ks.length ck, .int .i64 j, .string x, .slice pl ls.length cl, .bool f] w (BoolSaid w (ks.length ≤ 1048576 ∧ ls.length ≤ 1048576)) := by
  have Hks := Lib.hid hks
  have Hls := Lib.hid hls
  clear hks hls
  by_cases hq1 : ks.length ≤ 1048576
  · have hq1i : (ks.length : Int) ≤ 1048576 := by omega
    go_enter Tryf.func19, Tryf.ntmps19
    go_wp2
    go_loopg [11, 12] ks.length (fun gk zv kv wr => ∃ k z : Nat, gk + k = ks.length ∧ kv = .int .i64 (k : Int) ∧ zv = .int .i64 (z : Int) ∧ z ≤ 1048576 ∧ w = wr)
    case atStart => exact ⟨0, ks.length, by omega, rfl, rfl, hq1, rfl⟩
    case round =>
      obtain ⟨k, z, hk, rfl, rfl, hz, hw⟩ := hrel
      subst hw
      have Hk := Lib.hid hk
      have hzi : (z : Int) ≤ 1048576 := by omega
      clear hk
      by_cases hlt : k < ks.length
      · have hqk : ks[k]? = some ks[k] := List.getElem?_eq_getElem hlt
        generalize ks[k] = q at hqk
        have hlti : (k : Int) < (ks.length : Int) := by omega
        have hk0 : (0 : Int) ≤ (k : Int) := by omega
        have hs1 := Hks.out q (List.mem_of_getElem? hqk)
        rcases hK with he | ⟨qb, qo, rfl, hqb, hc⟩
        · rw [he] at hqk; simp at hqk
        have a0 := hc k _ hqk
        clear hc hqk
        by_cases t1 : q.size ≤ 1048576
        · have t1i : (q.size : Int) ≤ 1048576 := by omega
          by_cases t2 : z + q.size ≤ 1048576
          · have t2i : (z : Int) + (q.size : Int) ≤ 1048576 := by omega
            go_wp2
            go_roundg (gk - 1)
            case measure => have := Hk.out; omega
            case rel => exact ⟨k + 1, z + q.size, by have := Hk.out; omega, by go_num, by go_num, t2, rfl⟩
          · have t2i : ¬ (z : Int) + (q.size : Int) ≤ 1048576 := by omega
            go_wp2
            go_ret
            exact BoolSaid.no _ _
        · have t1i : ¬ (q.size : Int) ≤ 1048576 := by omega
          go_wp2
          go_ret
          exact BoolSaid.no _ _
      · have hleq : (ks.length : Int) ≤ (k : Int) := by have := Hk.out; omega
        clear Hks hK
        by_cases hx1 : x.size ≤ 1048576
        · have hx1i : (x.size : Int) ≤ 1048576 := by omega
          by_cases hx2 : z + x.size ≤ 1048576
          · have hx2i : (z : Int) + (x.size : Int) ≤ 1048576 := by omega
            by_cases hq2 : ls.length ≤ 1048576
            · have hq2i : (ls.length : Int) ≤ 1048576 := by omega
              by_cases hq3 : z + x.size + ls.length ≤ 1048576
              · have hq3i : (z : Int) + (x.size : Int) + (ls.length : Int) ≤ 1048576 := by omega
                go_wp2
                go_loopg [11, 13] ls.length (fun gk zv kv wr => ∃ k z : Nat, gk + k = ls.length ∧ kv = .int .i64 (k : Int) ∧ zv = .int .i64 (z : Int) ∧ z ≤ 1048576 ∧ w = wr)
                case atStart => exact ⟨0, z + x.size + ls.length, by omega, rfl, by go_num, hq3, rfl⟩
                case round =>
                  clear hz hzi hlt hleq hq3 hq3i Hk hx2 hx2i
                  obtain ⟨k, z, hk, rfl, rfl, hz, hw⟩ := hrel
                  subst hw
                  have Hk := Lib.hid hk
                  have hzi : (z : Int) ≤ 1048576 := by omega
                  clear hk
                  by_cases hlt : k < ls.length
                  · have hqk : ls[k]? = some ls[k] := List.getElem?_eq_getElem hlt
                    generalize ls[k] = q at hqk
                    have hlti : (k : Int) < (ls.length : Int) := by omega
                    have hk0 : (0 : Int) ≤ (k : Int) := by omega
                    have hs1 := Hls.out q (List.mem_of_getElem? hqk)
                    rcases hL with he | ⟨qb, qo, rfl, hqb, hc⟩
                    · rw [he] at hqk; simp at hqk
                    have a0 := hc k _ hqk
                    clear hc hqk
                    by_cases t1 : q.size ≤ 1048576
                    · have t1i : (q.size : Int) ≤ 1048576 := by omega
                      by_cases t2 : z + q.size ≤ 1048576
                      · have t2i : (z : Int) + (q.size : Int) ≤ 1048576 := by omega
                        go_wp2
                        go_roundg (gk - 1)
                        case measure => have := Hk.out; omega
                        case rel => exact ⟨k + 1, z + q.size, by have := Hk.out; omega, by go_num, by go_num, t2, rfl⟩
                      · have t2i : ¬ (z : Int) + (q.size : Int) ≤ 1048576 := by omega
                        go_wp2
                        go_ret
                        exact BoolSaid.no _ _
                    · have t1i : ¬ (q.size : Int) ≤ 1048576 := by omega
                      go_wp2
                      go_ret
                      exact BoolSaid.no _ _
                  · have hleq : (ls.length : Int) ≤ (k : Int) := by have := Hk.out; omega
                    go_wp2
                    go_ret
                    exact BoolSaid.yes _ ⟨hq1, hq2⟩
              · have hq3i : ¬ (z : Int) + (x.size : Int) + (ls.length : Int) ≤ 1048576 := by omega
                go_wp2
                go_ret
                exact BoolSaid.no _ _
            · have hq2i : ¬ (ls.length : Int) ≤ 1048576 := by omega
              go_wp2
              go_ret
              exact BoolSaid.no _ _
          · have hx2i : ¬ (z : Int) + (x.size : Int) ≤ 1048576 := by omega
            go_wp2
            go_ret
            exact BoolSaid.no _ _
        · have hx1i : ¬ (x.size : Int) ≤ 1048576 := by omega
          go_wp2
          go_ret
          exact BoolSaid.no _ _
  · have hq1i : ¬ (ks.length : Int) ≤ 1048576 := by omega
    go_enter Tryf.func19, Tryf.ntmps19
    go_wp2
    go_ret
    exact BoolSaid.no _ _
end Go.Proofs.Qxb6614591aFmt
