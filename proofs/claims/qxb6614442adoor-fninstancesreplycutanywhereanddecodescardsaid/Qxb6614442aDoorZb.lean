import Derived.Test.Qxb6614442aDoorToR
namespace Go.Proofs.Qxb6614442aDoor
open Go.RowKit

def sumBy {α : Type} (f : α → Nat) (l : List α) : Nat := (l.map f).sum

theorem sumBy_take_succ {α : Type} (f : α → Nat) (l : List α) (k : Nat) (x : α) (h : l[k]? = some x) : sumBy f (l.take (k + 1)) = sumBy f (l.take k) + f x := by
  unfold sumBy
  rw [List.take_add_one, h, List.map_append, List.sum_append]
  simp

def Bd.cost (b : Bd) : Nat := b.group.size + b.cluster.size + b.mems.length + sumBy (fun m => m.addr.size) b.mems
def routeCost (qs : List Qd) (bs : List Bd) : Nat := qs.length + sumBy (fun q => q.group.size) qs + bs.length + sumBy Bd.cost bs

/-- A bool is said, the world stands; where it is true, P. -/
def BoolSaid (w : World) (P : Prop) (e : Ending) (w' : World) : Prop := ∃ b : Bool, e = .returned (.bool b) ∧ w' = w ∧ (b = true → P)
theorem BoolSaid.no (w : World) (P : Prop) : BoolSaid w P (.returned (.bool false)) w := ⟨false, rfl, rfl, fun h => by cases h⟩
theorem BoolSaid.yes (w : World) {P : Prop} (h : P) : BoolSaid w P (.returned (.bool true)) w := ⟨true, rfl, rfl, fun _ => h⟩

set_option maxHeartbeats 4000000 in
set_option maxRecDepth 20000 in
theorem zzBytesRoute (rev : Int) (qs : List Qd) (qa : Option Addr) (qc : Nat) (bs : List Ba) (ba : Option Addr) (bc : Nat) (w : World) (hql : qs.length ≤ 9223372036854775807) (hq : ARows qa 4 (qs.map Qd.cells) w)
    (hbl : bs.length ≤ 9223372036854775807) (hb : ARows ba 3 (bs.map Ba.cells) w) (hml : ∀ m ∈ bs, m.d.mems.length ≤ 9223372036854775807 ∧ ARows m.ma 2 (m.d.mems.map Md.cells) w)
    (hqs : ∀ q ∈ qs, q.group.size ≤ 9223372036854775807) (hbs : ∀ m ∈ bs, m.d.group.size ≤ 9223372036854775807 ∧ m.d.cluster.size ≤ 9223372036854775807 ∧ ∀ x ∈ m.d.mems, x.addr.size ≤ 9223372036854775807) :
    Calls Tryd.prog 21 #[.int .i64 rev, .slice qa qs.length qc, .slice ba bs.length bc] w (BoolSaid w (routeCost qs (bs.map Ba.d) ≤ 1048576)) := by
  have Hml := Lib.hid hml
  have Hbs := Lib.hid hbs
  have Hqs := Lib.hid hqs
  clear hml hbs hqs
  by_cases hq1 : qs.length ≤ 1048576
  · have hq1i : (qs.length : Int) ≤ 1048576 := by omega
    go_enter Tryd.func21, Tryd.ntmps21
    go_wp2
    go_loopg [7, 8] qs.length (fun gk zv kv wr => ∃ k z : Nat, gk + k = qs.length ∧ kv = .int .i64 (k : Int) ∧ zv = .int .i64 (z : Int) ∧ z ≤ 1048576 ∧ z = qs.length + sumBy (fun q => q.group.size) (qs.take k) ∧ w = wr)
    case atStart => exact ⟨0, qs.length, by omega, rfl, rfl, hq1, by simp [sumBy], rfl⟩
    case round =>
      obtain ⟨k, z, hk, rfl, rfl, hz, hzs, hw⟩ := hrel
      subst hw
      have Hk := Lib.hid hk
      have Hzs := Lib.hid hzs
      have hzi : (z : Int) ≤ 1048576 := by omega
      clear hk hzs
      by_cases hlt : k < qs.length
      · have hqk : qs[k]? = some qs[k] := List.getElem?_eq_getElem hlt
        generalize qs[k] = q at hqk
        have hr : (qs.map Qd.cells)[k]? = some q.cells := by rw [List.getElem?_map, hqk]; rfl
        have hlti : (k : Int) < (qs.length : Int) := by omega
        have hk0 : (0 : Int) ≤ (k : Int) := by omega
        have hqsz := Hqs.out q (List.mem_of_getElem? hqk)
        have Hqk := Lib.hid hqk
        rcases hq with he | ⟨qb, qo, rfl, hqb, hc⟩
        · rw [he] at hr; simp at hr
        have a0 := hc k _ hr 0 _ rfl
        simp only [Nat.add_zero] at a0
        clear hc hqk hr
        by_cases hs1 : q.group.size ≤ 1048576
        · by_cases hs2 : z + q.group.size ≤ 1048576
          · have hs1i : (q.group.size : Int) ≤ 1048576 := by omega
            have hs2i : (z : Int) + (q.group.size : Int) ≤ 1048576 := by omega
            go_wp2
            go_roundg (gk - 1)
            case measure => have := Hk.out; omega
            case rel => exact ⟨k + 1, z + q.group.size, by have := Hk.out; omega, by go_num, by go_num, hs2, by rw [sumBy_take_succ _ _ _ _ Hqk.out, Hzs.out]; omega, rfl⟩
          · have hs2i : ¬ (z : Int) + (q.group.size : Int) ≤ 1048576 := by omega
            have hs1i : (q.group.size : Int) ≤ 1048576 := by omega
            go_wp2
            go_ret
            exact BoolSaid.no _ _
        · have hs1i : ¬ (q.group.size : Int) ≤ 1048576 := by omega
          go_wp2
          go_ret
          exact BoolSaid.no _ _
      · have hkq : k = qs.length := by have := Hk.out; omega
        have hleq : (qs.length : Int) ≤ (k : Int) := by omega
        have hz0 : z = qs.length + sumBy (fun q => q.group.size) qs := by rw [Hzs.out, List.take_of_length_le (by omega)]
        have Hz0 := Lib.hid hz0
        clear hkq hz0
        by_cases hb1 : bs.length ≤ 1048576
        · by_cases hb2 : z + bs.length ≤ 1048576
          · have hb1i : (bs.length : Int) ≤ 1048576 := by omega
            have hb2i : (z : Int) + (bs.length : Int) ≤ 1048576 := by omega
            go_wp2
            go_loopg [7, 9] bs.length (fun gk zv kv wr => ∃ k y : Nat, gk + k = bs.length ∧ kv = .int .i64 (k : Int) ∧ zv = .int .i64 (y : Int) ∧ y ≤ 1048576 ∧ y = z + bs.length + sumBy Bd.cost ((bs.map Ba.d).take k) ∧ w = wr)
            case atStart => exact ⟨0, z + bs.length, by omega, rfl, by go_num, hb2, by simp [sumBy], rfl⟩
            case round =>
              obtain ⟨k, y, hk, rfl, rfl, hy, hys, hw⟩ := hrel
              subst hw
              have Hk2 := Lib.hid hk
              have Hys := Lib.hid hys
              have hyi : (y : Int) ≤ 1048576 := by omega
              clear hk hys Hk
              by_cases hlt2 : k < bs.length
              · have hbk : bs[k]? = some bs[k] := List.getElem?_eq_getElem hlt2
                generalize bs[k] = m at hbk
                obtain ⟨hm1, hm2⟩ := Hml.out m (List.mem_of_getElem? hbk)
                obtain ⟨hg, hcl, hms⟩ := Hbs.out m (List.mem_of_getElem? hbk)
                have hdk : (bs.map Ba.d)[k]? = some m.d := by rw [List.getElem?_map, hbk]; rfl
                have hr : (bs.map Ba.cells)[k]? = some m.cells := by rw [List.getElem?_map, hbk]; rfl
                have hlti : (k : Int) < (bs.length : Int) := by omega
                have hk0 : (0 : Int) ≤ (k : Int) := by omega
                rcases hb with he | ⟨bb, bo, rfl, hbb, hc⟩
                · rw [he] at hr; simp at hr
                have a0 := hc k _ hr 0 _ rfl
                have a1 := hc k _ hr 1 _ rfl
                have a2 := hc k _ hr 2 _ rfl
                simp only [Nat.add_zero] at a0
                have Hdk := Lib.hid hdk
                have Hms := Lib.hid hms
                clear hc hbk hr hdk hms
                by_cases hs1 : m.d.group.size ≤ 1048576
                · by_cases hs2 : y + m.d.group.size ≤ 1048576
                  · by_cases hs3 : m.d.cluster.size ≤ 1048576
                    · by_cases hs4 : y + m.d.group.size + m.d.cluster.size ≤ 1048576
                      · by_cases hs5 : m.d.mems.length ≤ 1048576
                        · by_cases hs6 : y + m.d.group.size + m.d.cluster.size + m.d.mems.length ≤ 1048576
                          · have hs1i : (m.d.group.size : Int) ≤ 1048576 := by omega
                            have hs2i : (y : Int) + (m.d.group.size : Int) ≤ 1048576 := by omega
                            have hs3i : (m.d.cluster.size : Int) ≤ 1048576 := by omega
                            have hs4i : (y : Int) + (m.d.group.size : Int) + (m.d.cluster.size : Int) ≤ 1048576 := by omega
                            have hs5i : (m.d.mems.length : Int) ≤ 1048576 := by omega
                            have hs6i : (y : Int) + (m.d.group.size : Int) + (m.d.cluster.size : Int) + (m.d.mems.length : Int) ≤ 1048576 := by omega
                            go_wp2
                            obtain ⟨ko, rfl⟩ : ∃ ko : Nat, ko = k := ⟨_, rfl⟩
                            obtain ⟨go, rfl⟩ : ∃ go : Nat, go = gk := ⟨_, rfl⟩
                            go_loopg [7, 10] m.d.mems.length (fun gk zv kv wr => ∃ k x : Nat, gk + k = m.d.mems.length ∧ kv = .int .i64 (k : Int) ∧ zv = .int .i64 (x : Int) ∧ x ≤ 1048576 ∧ x = y + m.d.group.size + m.d.cluster.size + m.d.mems.length + sumBy (fun m => m.addr.size) (m.d.mems.take k) ∧ w = wr)
                            case atStart => exact ⟨0, y + m.d.group.size + m.d.cluster.size + m.d.mems.length, by omega, rfl, by go_num, hs6, by simp [sumBy], rfl⟩
                            case round =>
                              obtain ⟨k, x, hk, rfl, rfl, hx, hxs, hw⟩ := hrel
                              subst hw
                              have Hk3 := Lib.hid hk
                              have Hxs := Lib.hid hxs
                              have hxi : (x : Int) ≤ 1048576 := by omega
                              clear hk hxs
                              by_cases hlt3 : k < m.d.mems.length
                              · have hmk : m.d.mems[k]? = some m.d.mems[k] := List.getElem?_eq_getElem hlt3
                                generalize m.d.mems[k] = u at hmk
                                have hu := Hms.out u (List.mem_of_getElem? hmk)
                                have hr : (m.d.mems.map Md.cells)[k]? = some u.cells := by rw [List.getElem?_map, hmk]; rfl
                                have hlt3i : (k : Int) < (m.d.mems.length : Int) := by omega
                                have hk30 : (0 : Int) ≤ (k : Int) := by omega
                                rcases hm2 with he | ⟨mb, mo, hma, hmb, hc⟩
                                · rw [he] at hr; simp at hr
                                have p1 := hc k _ hr 1 _ rfl
                                have Hmk := Lib.hid hmk
                                clear hc hmk hr
                                rw [hma] at a2
                                clear hma
                                by_cases hu1 : u.addr.size ≤ 1048576
                                · by_cases hu2 : x + u.addr.size ≤ 1048576
                                  · have hu1i : (u.addr.size : Int) ≤ 1048576 := by omega
                                    have hu2i : (x : Int) + (u.addr.size : Int) ≤ 1048576 := by omega
                                    go_wp2
                                    go_roundg (gk - 1)
                                    case measure => have := Hk3.out; omega
                                    case rel => exact ⟨k + 1, x + u.addr.size, by have := Hk3.out; omega, by go_num, by go_num, hu2, by rw [sumBy_take_succ _ _ _ _ Hmk.out, Hxs.out]; omega, rfl⟩
                                  · have hu1i : (u.addr.size : Int) ≤ 1048576 := by omega
                                    have hu2i : ¬ (x : Int) + (u.addr.size : Int) ≤ 1048576 := by omega
                                    go_wp2
                                    go_ret
                                    exact BoolSaid.no _ _
                                · have hu1i : ¬ (u.addr.size : Int) ≤ 1048576 := by omega
                                  go_wp2
                                  go_ret
                                  exact BoolSaid.no _ _
                              · have hkm : k = m.d.mems.length := by have := Hk3.out; omega
                                have hle3 : (m.d.mems.length : Int) ≤ (k : Int) := by omega
                                have hx0 : x = y + Bd.cost m.d := by rw [Hxs.out, List.take_of_length_le (by omega)]; unfold Bd.cost; omega
                                have Hx0 := Lib.hid hx0
                                clear hkm hx0
                                go_wp2
                                go_roundg (go - 1)
                                case measure => have := Hk2.out; omega
                                case rel => exact ⟨ko + 1, x, by have := Hk2.out; omega, by go_num, rfl, hx, by rw [sumBy_take_succ _ _ _ _ Hdk.out, Hx0.out, Hys.out]; omega, rfl⟩
                          · have hs1i : (m.d.group.size : Int) ≤ 1048576 := by omega
                            have hs2i : (y : Int) + (m.d.group.size : Int) ≤ 1048576 := by omega
                            have hs3i : (m.d.cluster.size : Int) ≤ 1048576 := by omega
                            have hs4i : (y : Int) + (m.d.group.size : Int) + (m.d.cluster.size : Int) ≤ 1048576 := by omega
                            have hs5i : (m.d.mems.length : Int) ≤ 1048576 := by omega
                            have hs6i : ¬ (y : Int) + (m.d.group.size : Int) + (m.d.cluster.size : Int) + (m.d.mems.length : Int) ≤ 1048576 := by omega
                            go_wp2
                            go_ret
                            exact BoolSaid.no _ _
                        · have hs1i : (m.d.group.size : Int) ≤ 1048576 := by omega
                          have hs2i : (y : Int) + (m.d.group.size : Int) ≤ 1048576 := by omega
                          have hs3i : (m.d.cluster.size : Int) ≤ 1048576 := by omega
                          have hs4i : (y : Int) + (m.d.group.size : Int) + (m.d.cluster.size : Int) ≤ 1048576 := by omega
                          have hs5i : ¬ (m.d.mems.length : Int) ≤ 1048576 := by omega
                          go_wp2
                          go_ret
                          exact BoolSaid.no _ _
                      · have hs1i : (m.d.group.size : Int) ≤ 1048576 := by omega
                        have hs2i : (y : Int) + (m.d.group.size : Int) ≤ 1048576 := by omega
                        have hs3i : (m.d.cluster.size : Int) ≤ 1048576 := by omega
                        have hs4i : ¬ (y : Int) + (m.d.group.size : Int) + (m.d.cluster.size : Int) ≤ 1048576 := by omega
                        go_wp2
                        go_ret
                        exact BoolSaid.no _ _
                    · have hs1i : (m.d.group.size : Int) ≤ 1048576 := by omega
                      have hs2i : (y : Int) + (m.d.group.size : Int) ≤ 1048576 := by omega
                      have hs3i : ¬ (m.d.cluster.size : Int) ≤ 1048576 := by omega
                      go_wp2
                      go_ret
                      exact BoolSaid.no _ _
                  · have hs1i : (m.d.group.size : Int) ≤ 1048576 := by omega
                    have hs2i : ¬ (y : Int) + (m.d.group.size : Int) ≤ 1048576 := by omega
                    go_wp2
                    go_ret
                    exact BoolSaid.no _ _
                · have hs1i : ¬ (m.d.group.size : Int) ≤ 1048576 := by omega
                  go_wp2
                  go_ret
                  exact BoolSaid.no _ _
              · have hkb : k = bs.length := by have := Hk2.out; omega
                have hleb : (bs.length : Int) ≤ (k : Int) := by omega
                have hfin : routeCost qs (bs.map Ba.d) ≤ 1048576 := by
                  have h1 := Hys.out
                  have h2 := Hz0.out
                  rw [List.take_of_length_le (by rw [List.length_map]; omega)] at h1
                  unfold routeCost
                  rw [List.length_map]
                  omega
                have Hfin := Lib.hid hfin
                clear hkb hfin
                go_wp2
                go_ret
                exact BoolSaid.yes _ Hfin.out
          · have hb1i : (bs.length : Int) ≤ 1048576 := by omega
            have hb2i : ¬ (z : Int) + (bs.length : Int) ≤ 1048576 := by omega
            go_wp2
            go_ret
            exact BoolSaid.no _ _
        · have hb1i : ¬ (bs.length : Int) ≤ 1048576 := by omega
          go_wp2
          go_ret
          exact BoolSaid.no _ _
  · have hq1i : ¬ (qs.length : Int) ≤ 1048576 := by omega
    go_enter Tryd.func21, Tryd.ntmps21
    go_wp2
    go_ret
    exact BoolSaid.no _ _
end Go.Proofs.Qxb6614442aDoor
