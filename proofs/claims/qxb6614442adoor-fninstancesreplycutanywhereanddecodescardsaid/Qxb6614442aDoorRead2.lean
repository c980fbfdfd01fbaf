import Derived.Test.Qxb6614442aDoorRead
import Derived.Test.Qxb6614442aDoorRx
namespace Go.Proofs.Qxb6614442aDoor
open Go.RowKit

/-- Block g holds the bytes l from its head on. -/
def BytesAt (g : Nat) (l : List UInt8) (w : World) : Prop := ∀ j (b : UInt8), l[j]? = some b → w.cell? ⟨g, j, none⟩ = some (.int .u8 (b.toNat : Int))

theorem dg_toNat (u j : Nat) : ((Lib.dg u j).toNat : Int) = 48 + ((u / 10 ^ j % 10 : Nat) : Int) := by
  unfold Lib.dg
  have h : 48 + u / 10 ^ j % 10 < 256 := by have := Nat.mod_lt (u / 10 ^ j) (show 10 > 0 by decide); omega
  rw [UInt8.toNat_ofNat']
  rw [Nat.mod_eq_of_lt (by simpa using h)]
  omega

theorem dec_at (u k : Nat) (h : k < Lib.nDigits u) : (Lib.decDigits u)[k]? = some (Lib.dg u (Lib.nDigits u - 1 - k)) := by
  rw [Lib.decDigits_eq, List.getElem?_map, List.getElem?_range h]
  rfl

theorem pow_le_nDigits (u : Nat) (h : 1 < Lib.nDigits u) : 10 ^ (Lib.nDigits u - 1) ≤ u := by
  induction u using Nat.strongRecOn with
  | _ u ih =>
    by_cases h10 : u < 10
    · rw [Lib.nDigits_small h10] at h; omega
    · rw [Lib.nDigits_big h10]
      by_cases h2 : 1 < Lib.nDigits (u / 10)
      · have := ih (u / 10) (by omega) h2
        rw [Nat.add_sub_cancel]
        have e : Lib.nDigits (u / 10) = Lib.nDigits (u / 10) - 1 + 1 := by omega
        rw [e, Nat.pow_succ]
        omega
      · have := Lib.nDigits_pos (u / 10)
        have e : Lib.nDigits (u / 10) = 1 := by omega
        rw [e]
        simpa using (by omega : 10 ≤ u)

def Ak (u k : Nat) : Int := ((u / 10 ^ (Lib.nDigits u - k) : Nat) : Int)
def Dk (u k : Nat) : Int := ((u / 10 ^ (Lib.nDigits u - 1 - k) % 10 : Nat) : Int)

theorem Dk_bd (u k : Nat) : 0 ≤ Dk u k ∧ Dk u k ≤ 9 := by
  unfold Dk
  have := Nat.mod_lt (u / 10 ^ (Lib.nDigits u - 1 - k)) (show 10 > 0 by decide)
  omega
theorem Ak_zero (u : Nat) : Ak u 0 = 0 := by
  unfold Ak
  rw [Nat.sub_zero, Nat.div_eq_of_lt (Lib.lt_pow_nDigits u)]
  rfl
theorem Ak_last (u : Nat) : Ak u (Lib.nDigits u) = (u : Int) := by
  unfold Ak
  rw [Nat.sub_self, Nat.pow_zero, Nat.div_one]
theorem Ak_succ (u k : Nat) (h : k < Lib.nDigits u) : Ak u (k + 1) = Ak u k * 10 + Dk u k := by
  unfold Ak Dk
  have e1 : Lib.nDigits u - k = (Lib.nDigits u - 1 - k) + 1 := by omega
  have e2 : Lib.nDigits u - (k + 1) = Lib.nDigits u - 1 - k := by omega
  rw [e1, e2, Nat.pow_succ, ← Nat.div_div_eq_div_mul]
  omega
theorem Ak_le (u k : Nat) : 0 ≤ Ak u k ∧ Ak u k ≤ (u : Int) := by
  unfold Ak
  exact ⟨Int.natCast_nonneg _, Int.ofNat_le.2 (Nat.div_le_self u (10 ^ (Lib.nDigits u - k)))⟩
theorem Dk_lead (u : Nat) (h : 1 < Lib.nDigits u) : 1 ≤ Dk u 0 := by
  unfold Dk
  rw [Nat.sub_zero]
  have h1 := pow_le_nDigits u h
  have h2 := Lib.lt_pow_nDigits u
  have e : Lib.nDigits u = Lib.nDigits u - 1 + 1 := by omega
  rw [e, Nat.pow_succ] at h2
  have hp : 0 < 10 ^ (Lib.nDigits u - 1) := Nat.pow_pos (by decide)
  have h3 : u / 10 ^ (Lib.nDigits u - 1) < 10 := by rw [Nat.div_lt_iff_lt_mul hp]; omega
  have h4 : 1 ≤ u / 10 ^ (Lib.nDigits u - 1) := by rw [Nat.le_div_iff_mul_le hp]; omega
  rw [Nat.mod_eq_of_lt h3]
  omega

theorem at_mid (p q r : List UInt8) (j : Nat) (h : j < q.length) : (p ++ (q ++ r))[p.length + j]? = q[j]? := by
  rw [List.getElem?_append_right (by omega), Nat.add_sub_cancel_left, List.getElem?_append_left h]

/-- readNum, where a numeral stands. -/
theorem readNum_ok (g cap : Nat) (l p r : List UInt8) (c : UInt8) (pre v : Int) (w : World) (hl : l = p ++ (num c v ++ r)) (hpre : pre = (c.toNat : Int)) (hv : -9223372036854775808 ≤ v ∧ v ≤ 9223372036854775807) (hb : BytesAt g l w) (hlen : l.length ≤ 9223372036854775807) :
    Calls Tryd.prog 12 #[.slice (some ⟨g, 0, none⟩) l.length cap, .int .i64 (p.length : Int), .int .u8 pre] w fun e w' => e = .returned (.tuple #[.int .i64 v, .int .i64 ((p.length + (num c v).length : Nat) : Int), .bool true]) ∧ w' = w := by
  have hat : ∀ j b, (num c v)[j]? = some b → w.cell? ⟨g, p.length + j, none⟩ = some (.int .u8 (b.toNat : Int)) := by
    intro j b hj
    refine hb _ b ?_
    rw [hl, at_mid _ _ _ _ (List.getElem?_eq_some_iff.1 hj).1]; exact hj
  have hll : p.length + (num c v).length ≤ l.length := by rw [hl, List.length_append, List.length_append]; omega
  have h0 : w.cell? ⟨g, p.length, none⟩ = some (.int .u8 pre) := by rw [hpre]; exact hat 0 c rfl
  by_cases hneg : v < 0
  · obtain ⟨u, rfl⟩ : ∃ u : Nat, v = -(u : Int) := ⟨v.natAbs, by omega⟩
    have hu1 : 1 ≤ u := by omega
    have hnm : num c (-(u : Int)) = c :: 45 :: (Lib.decDigits u ++ [13, 10]) := by unfold num; rw [Lib.itoa_neg u hu1]; rfl
    have hnl : (num c (-(u : Int))).length = Lib.nDigits u + 4 := by rw [hnm]; simp [Lib.decDigits_length]
    rw [hnm] at hat
    have h9 := readNum_neg g cap l.length p.length (Lib.nDigits u) pre (Ak u) (Dk u) w hlen (by omega) (Lib.nDigits_pos u) h0 (hat 1 45 rfl)
      (fun k hk => by
        have := hat (k + 2) _ (show (c :: 45 :: (Lib.decDigits u ++ [13, 10]))[k + 2]? = some (Lib.dg u (Lib.nDigits u - 1 - k)) by
          rw [List.getElem?_cons_succ, List.getElem?_cons_succ, List.getElem?_append_left (by rw [Lib.decDigits_length]; exact hk), dec_at u k hk])
        rw [dg_toNat] at this
        rw [show p.length + 2 + k = p.length + (k + 2) by omega]
        exact this)
      (Dk_bd u) (Ak_zero u) (Ak_succ u) (fun k _ => ⟨(Ak_le u k).1, by have := (Ak_le u k).2; omega⟩) (by rw [Ak_last]; omega) (Dk_lead u)
      (by
        have := hat (Lib.nDigits u + 2) 13 (by rw [List.getElem?_cons_succ, List.getElem?_cons_succ, List.getElem?_append_right (by rw [Lib.decDigits_length]; omega), Lib.decDigits_length, Nat.sub_self]; rfl)
        rw [show p.length + 2 + Lib.nDigits u = p.length + (Lib.nDigits u + 2) by omega]
        exact this)
      (by
        have := hat (Lib.nDigits u + 3) 10 (by rw [List.getElem?_cons_succ, List.getElem?_cons_succ, List.getElem?_append_right (by rw [Lib.decDigits_length]; omega), Lib.decDigits_length, Nat.add_sub_cancel_left]; rfl)
        rw [show p.length + 2 + Lib.nDigits u + 1 = p.length + (Lib.nDigits u + 3) by omega]
        exact this)
    rw [Ak_last] at h9
    rw [hnl, show p.length + (Lib.nDigits u + 4) = p.length + 2 + Lib.nDigits u + 2 by omega]
    exact h9
  · obtain ⟨u, rfl⟩ : ∃ u : Nat, v = (u : Int) := ⟨v.toNat, by omega⟩
    have hnm : num c (u : Int) = c :: (Lib.decDigits u ++ [13, 10]) := by unfold num; rw [Lib.itoa_nonneg u]
    have hnl : (num c (u : Int)).length = Lib.nDigits u + 3 := by rw [hnm]; simp [Lib.decDigits_length]
    rw [hnm] at hat
    have h9 := readNum_pos g cap l.length p.length (Lib.nDigits u) pre (Ak u) (Dk u) w hlen (by omega) (Lib.nDigits_pos u) h0
      (fun k hk => by
        have := hat (k + 1) _ (show (c :: (Lib.decDigits u ++ [13, 10]))[k + 1]? = some (Lib.dg u (Lib.nDigits u - 1 - k)) by
          rw [List.getElem?_cons_succ, List.getElem?_append_left (by rw [Lib.decDigits_length]; exact hk), dec_at u k hk])
        rw [dg_toNat] at this
        rw [show p.length + 1 + k = p.length + (k + 1) by omega]
        exact this)
      (Dk_bd u) (Ak_zero u) (Ak_succ u) (fun k _ => ⟨(Ak_le u k).1, by have := (Ak_le u k).2; omega⟩) (Dk_lead u)
      (by
        have := hat (Lib.nDigits u + 1) 13 (by rw [List.getElem?_cons_succ, List.getElem?_append_right (by rw [Lib.decDigits_length]; omega), Lib.decDigits_length, Nat.sub_self]; rfl)
        rw [show p.length + 1 + Lib.nDigits u = p.length + (Lib.nDigits u + 1) by omega]
        exact this)
      (by
        have := hat (Lib.nDigits u + 2) 10 (by rw [List.getElem?_cons_succ, List.getElem?_append_right (by rw [Lib.decDigits_length]; omega), Lib.decDigits_length, Nat.add_sub_cancel_left]; rfl)
        rw [show p.length + 1 + Lib.nDigits u + 1 = p.length + (Lib.nDigits u + 2) by omega]
        exact this)
    rw [Ak_last] at h9
    rw [hnl, show p.length + (Lib.nDigits u + 3) = p.length + 1 + Lib.nDigits u + 2 by omega]
    exact h9

set_option maxHeartbeats 1000000 in
/-- expectBulk, where the bulk string s stands. -/
theorem expectBulk_ok (g cap : Nat) (l p r : List UInt8) (s : ByteArray) (w : World) (hl : l = p ++ (bulk s.data.toList ++ r)) (hs : s.size ≤ 1073741824) (hb : BytesAt g l w) (hlen : l.length ≤ 1099511627776) :
    Calls Tryd.prog 26 #[.slice (some ⟨g, 0, none⟩) l.length cap, .int .i64 (p.length : Int), .string s] w fun e w' => e = .returned (.tuple #[.int .i64 ((p.length + (bulk s.data.toList).length : Nat) : Int), .bool true]) ∧ ∃ n, w' = w.drewN n := by
  have hsz : s.data.toList.length = s.size := (Lib.size_eq s).symm
  have h1 := readNum_ok g cap l p (s.data.toList ++ ([13, 10] ++ r)) 36 36 (s.size : Int) w (by rw [hl]; unfold bulk; rw [hsz]; simp) rfl (by omega) hb (by omega)
  obtain ⟨q, hq⟩ : ∃ q, q = p.length + (num 36 (s.size : Int)).length := ⟨_, rfl⟩
  rw [← hq] at h1
  have hbl : (bulk s.data.toList).length = (num 36 (s.size : Int)).length + (s.size + 2) := by unfold bulk; rw [hsz]; simp [hsz]
  have hll : l.length = q + s.size + 2 + r.length := by rw [hl, List.length_append, List.length_append, hbl]; omega
  have hat : ∀ j b, (s.data.toList ++ [13, 10])[j]? = some b → w.cell? ⟨g, q + j, none⟩ = some (.int .u8 (b.toNat : Int)) := by
    intro j b hj
    refine hb _ b ?_
    have e : l = (p ++ num 36 (s.size : Int)) ++ ((s.data.toList ++ [13, 10]) ++ r) := by rw [hl]; unfold bulk; rw [hsz]; simp
    have hqq : q = (p ++ num 36 (s.size : Int)).length := by rw [List.length_append]; exact hq
    rw [e, hqq, at_mid _ _ _ _ (List.getElem?_eq_some_iff.1 hj).1]
    exact hj
  have hc : ∀ k (hk : k < s.size), w.cell? ⟨g, q + k, none⟩ = some (.int .u8 ((s[k]'hk).toNat : Int)) := by
    intro k hk
    refine hat k _ ?_
    rw [List.getElem?_append_left (by omega), List.getElem?_eq_getElem (by omega)]
    rfl
  have h13 : w.cell? ⟨g, q + s.size, none⟩ = some (.int .u8 13) := hat s.size 13 (by rw [List.getElem?_append_right (by omega), hsz, Nat.sub_self]; rfl)
  have h10 : w.cell? ⟨g, q + s.size + 1, none⟩ = some (.int .u8 10) := hat (s.size + 1) 10 (by rw [List.getElem?_append_right (by omega), hsz, Nat.add_sub_cancel_left]; rfl)
  have Hq := Lib.hid hq
  have Hbl := Lib.hid hbl
  have Hll := Lib.hid hll
  have hqb : q + s.size + 2 ≤ l.length := by omega
  have Hc := Lib.hid hc
  clear hq hbl hll hl hsz hat hc hb
  go_enter Tryd.func26, Tryd.ntmps26
  have hdec : decide ((l.length : Int) - (q : Int) < (s.size : Int) + 2) = false := by simp; omega
  go_wp2_with (go_at_call 12; refine h1.mono ?_; rintro e w' ⟨rfl, rfl⟩)
  clear h1
  go_loopg [11] s.size (fun gk kv wr => ∃ k n : Nat, gk + k = s.size ∧ kv = .int .i64 (k : Int) ∧ wr = w'.drewN n)
  case atStart => exact ⟨0, 0, by omega, rfl, rfl⟩
  case round =>
    obtain ⟨k, n, hk, rfl, rfl⟩ := hrel
    have Hk := Lib.hid hk
    clear hk
    by_cases hlt : k < s.size
    · have hck := Hc.out k hlt
      have hlti : (k : Int) < (s.size : Int) := by omega
      have hk0 : (0 : Int) ≤ (k : Int) := by omega
      have hi1 : (0 : Int) ≤ (q : Int) + (k : Int) := by omega
      have hi2 : (q : Int) + (k : Int) < (l.length : Int) := by omega
      have hwr : IntKind.i64.wrap ((q : Int) + (k : Int)) = (q : Int) + (k : Int) := by rw [IntKind.wrap_i64]; omega
      go_wp2
      go_quiet (fail)
      go_wp2
      go_roundg (gk - 1)
      case measure => have := Hk.out; omega
      case rel => exact ⟨k + 1, _, by have := Hk.out; omega, by go_num, rfl⟩
    · have hks : k = s.size := by have := Hk.out; omega
      have hle : (s.size : Int) ≤ (k : Int) := by omega
      clear hks
      go_wp2
      go_ret2
      have hfin : ∀ x : Int, x = ((p.length + (bulk s.data.toList).length : Nat) : Int) → Ending.returned (.tuple #[.int .i64 x, .bool true]) = .returned (.tuple #[.int .i64 ((p.length + (bulk s.data.toList).length : Nat) : Int), .bool true]) := by rintro x rfl; rfl
      exact ⟨hfin _ (by have h1 := Hq.out; have h2 := Hbl.out; omega), _, rfl⟩
end Go.Proofs.Qxb6614442aDoor
