import Derived.Test.Qxb6614442aDoorLi
namespace Go.Proofs.Qxb6614442aDoor
open Go.RowKit

theorem sumBy_le {α : Type} (f : α → Nat) (l : List α) (k : Nat) (x : α) (h : l[k]? = some x) : sumBy f (l.take k) + f x ≤ sumBy f l := by
  have e : sumBy f l = sumBy f (l.take (k + 1)) + sumBy f (l.drop (k + 1)) := by
    unfold sumBy
    rw [← List.sum_append, ← List.map_append, List.take_append_drop]
  rw [e, sumBy_take_succ f l k x h]
  omega

set_option maxHeartbeats 4000000 in
set_option maxRecDepth 20000 in
theorem zzBytes17 (rev : Int) (pr : Int) (ns : List Nd) (qa : Option Addr) (qc : Nat) (w : World) (hql : ns.length ≤ 9223372036854775807) (hq : ARows qa 4 (ns.map Nd.cells) w)
    (hqs : ∀ q ∈ ns, q.name.size ≤ 9223372036854775807 ∧ q.addr.size ≤ 9223372036854775807 ∧ q.note.size ≤ 9223372036854775807) :
    Calls Tryd.prog 17 #[.int .i64 rev, .slice qa ns.length qc, .int .i64 pr] w (BoolSaid w (listCost ns ≤ 1048576)) := by
  have Hqs := Lib.hid hqs
  clear hqs
  by_cases hq1 : ns.length ≤ 1048576
  · have hq1i : (ns.length : Int) ≤ 1048576 := by omega
    go_enter Tryd.func17, Tryd.ntmps17
    go_wp2
    go_loopg [7, 8] ns.length (fun gk zv kv wr => ∃ k z : Nat, gk + k = ns.length ∧ kv = .int .i64 (k : Int) ∧ zv = .int .i64 (z : Int) ∧ z ≤ 1048576 ∧ z = ns.length + sumBy Nd.cost (ns.take k) ∧ w = wr)
    case atStart => exact ⟨0, ns.length, by omega, rfl, rfl, hq1, by simp [sumBy], rfl⟩
    case round =>
      obtain ⟨k, z, hk, rfl, rfl, hz, hzs, hw⟩ := hrel
      subst hw
      have Hk := Lib.hid hk
      have Hzs := Lib.hid hzs
      have hzi : (z : Int) ≤ 1048576 := by omega
      clear hk hzs
      by_cases hlt : k < ns.length
      · have hqk : ns[k]? = some ns[k] := List.getElem?_eq_getElem hlt
        generalize ns[k] = q at hqk
        have hr : (ns.map Nd.cells)[k]? = some q.cells := by rw [List.getElem?_map, hqk]; rfl
        have hlti : (k : Int) < (ns.length : Int) := by omega
        have hk0 : (0 : Int) ≤ (k : Int) := by omega
        obtain ⟨hs1, hs2, hs3⟩ := Hqs.out q (List.mem_of_getElem? hqk)
        have Hqk := Lib.hid hqk
        rcases hq with he | ⟨qb, qo, rfl, hqb, hc⟩
        · rw [he] at hr; simp at hr
        have a0 := hc k _ hr 0 _ rfl
        have a1 := hc k _ hr 1 _ rfl
        have a3 := hc k _ hr 3 _ rfl
        simp only [Nat.add_zero] at a0
        clear hc hqk hr
        by_cases t1 : q.name.size ≤ 1048576
        · by_cases t2 : z + q.name.size ≤ 1048576
          · by_cases t3 : q.addr.size ≤ 1048576
            · by_cases t4 : z + q.name.size + q.addr.size ≤ 1048576
              · by_cases t5 : q.note.size ≤ 1048576
                · by_cases t6 : z + q.name.size + q.addr.size + q.note.size ≤ 1048576
                  · have t1i : (q.name.size : Int) ≤ 1048576 := by omega
                    have t2i : (z : Int) + (q.name.size : Int) ≤ 1048576 := by omega
                    have t3i : (q.addr.size : Int) ≤ 1048576 := by omega
                    have t4i : (z : Int) + (q.name.size : Int) + (q.addr.size : Int) ≤ 1048576 := by omega
                    have t5i : (q.note.size : Int) ≤ 1048576 := by omega
                    have t6i : (z : Int) + (q.name.size : Int) + (q.addr.size : Int) + (q.note.size : Int) ≤ 1048576 := by omega
                    go_wp2
                    go_roundg (gk - 1)
                    case measure => have := Hk.out; omega
                    case rel => exact ⟨k + 1, z + q.name.size + q.addr.size + q.note.size, by have := Hk.out; omega, by go_num, by go_num, t6, by rw [sumBy_take_succ _ _ _ _ Hqk.out, Hzs.out]; unfold Nd.cost; omega, rfl⟩
                  · have t1i : (q.name.size : Int) ≤ 1048576 := by omega
                    have t2i : (z : Int) + (q.name.size : Int) ≤ 1048576 := by omega
                    have t3i : (q.addr.size : Int) ≤ 1048576 := by omega
                    have t4i : (z : Int) + (q.name.size : Int) + (q.addr.size : Int) ≤ 1048576 := by omega
                    have t5i : (q.note.size : Int) ≤ 1048576 := by omega
                    have t6i : ¬ (z : Int) + (q.name.size : Int) + (q.addr.size : Int) + (q.note.size : Int) ≤ 1048576 := by omega
                    go_wp2
                    go_ret
                    exact BoolSaid.no _ _
                · have t1i : (q.name.size : Int) ≤ 1048576 := by omega
                  have t2i : (z : Int) + (q.name.size : Int) ≤ 1048576 := by omega
                  have t3i : (q.addr.size : Int) ≤ 1048576 := by omega
                  have t4i : (z : Int) + (q.name.size : Int) + (q.addr.size : Int) ≤ 1048576 := by omega
                  have t5i : ¬ (q.note.size : Int) ≤ 1048576 := by omega
                  go_wp2
                  go_ret
                  exact BoolSaid.no _ _
              · have t1i : (q.name.size : Int) ≤ 1048576 := by omega
                have t2i : (z : Int) + (q.name.size : Int) ≤ 1048576 := by omega
                have t3i : (q.addr.size : Int) ≤ 1048576 := by omega
                have t4i : ¬ (z : Int) + (q.name.size : Int) + (q.addr.size : Int) ≤ 1048576 := by omega
                go_wp2
                go_ret
                exact BoolSaid.no _ _
            · have t1i : (q.name.size : Int) ≤ 1048576 := by omega
              have t2i : (z : Int) + (q.name.size : Int) ≤ 1048576 := by omega
              have t3i : ¬ (q.addr.size : Int) ≤ 1048576 := by omega
              go_wp2
              go_ret
              exact BoolSaid.no _ _
          · have t1i : (q.name.size : Int) ≤ 1048576 := by omega
            have t2i : ¬ (z : Int) + (q.name.size : Int) ≤ 1048576 := by omega
            go_wp2
            go_ret
            exact BoolSaid.no _ _
        · have t1i : ¬ (q.name.size : Int) ≤ 1048576 := by omega
          go_wp2
          go_ret
          exact BoolSaid.no _ _
      · have hleq : (ns.length : Int) ≤ (k : Int) := by have := Hk.out; omega
        go_wp2
        go_ret
        refine BoolSaid.yes _ ?_
        have h1 := Hzs.out
        rw [List.take_of_length_le (by have := Hk.out; omega)] at h1
        unfold listCost
        omega
  · have hq1i : ¬ (ns.length : Int) ≤ 1048576 := by omega
    go_enter Tryd.func17, Tryd.ntmps17
    go_wp2
    go_ret
    exact BoolSaid.no _ _

set_option maxHeartbeats 4000000 in
set_option maxRecDepth 20000 in
theorem zzBytes8 (rev : Int) (kk : Int) (ns : List Nd) (qa : Option Addr) (qc : Nat) (w : World) (hql : ns.length ≤ 9223372036854775807) (hq : ARows qa 4 (ns.map Nd.cells) w)
    (hqs : ∀ q ∈ ns, q.name.size ≤ 9223372036854775807 ∧ q.addr.size ≤ 9223372036854775807 ∧ q.note.size ≤ 9223372036854775807) :
    Calls Tryd.prog 8 #[.int .i64 rev, .slice qa ns.length qc, .int .i64 kk] w (BoolSaid w (listCost ns ≤ 1048576)) := by
  have Hqs := Lib.hid hqs
  clear hqs
  by_cases hq1 : ns.length ≤ 1048576
  · have hq1i : (ns.length : Int) ≤ 1048576 := by omega
    go_enter Tryd.func8, Tryd.ntmps8
    go_wp2
    go_loopg [7, 8] ns.length (fun gk zv kv wr => ∃ k z : Nat, gk + k = ns.length ∧ kv = .int .i64 (k : Int) ∧ zv = .int .i64 (z : Int) ∧ z ≤ 1048576 ∧ z = ns.length + sumBy Nd.cost (ns.take k) ∧ w = wr)
    case atStart => exact ⟨0, ns.length, by omega, rfl, rfl, hq1, by simp [sumBy], rfl⟩
    case round =>
      obtain ⟨k, z, hk, rfl, rfl, hz, hzs, hw⟩ := hrel
      subst hw
      have Hk := Lib.hid hk
      have Hzs := Lib.hid hzs
      have hzi : (z : Int) ≤ 1048576 := by omega
      clear hk hzs
      by_cases hlt : k < ns.length
      · have hqk : ns[k]? = some ns[k] := List.getElem?_eq_getElem hlt
        generalize ns[k] = q at hqk
        have hr : (ns.map Nd.cells)[k]? = some q.cells := by rw [List.getElem?_map, hqk]; rfl
        have hlti : (k : Int) < (ns.length : Int) := by omega
        have hk0 : (0 : Int) ≤ (k : Int) := by omega
        obtain ⟨hs1, hs2, hs3⟩ := Hqs.out q (List.mem_of_getElem? hqk)
        have Hqk := Lib.hid hqk
        rcases hq with he | ⟨qb, qo, rfl, hqb, hc⟩
        · rw [he] at hr; simp at hr
        have a0 := hc k _ hr 0 _ rfl
        have a1 := hc k _ hr 1 _ rfl
        have a3 := hc k _ hr 3 _ rfl
        simp only [Nat.add_zero] at a0
        clear hc hqk hr
        by_cases t1 : q.name.size ≤ 1048576
        · by_cases t2 : z + q.name.size ≤ 1048576
          · by_cases t3 : q.addr.size ≤ 1048576
            · by_cases t4 : z + q.name.size + q.addr.size ≤ 1048576
              · by_cases t5 : q.note.size ≤ 1048576
                · by_cases t6 : z + q.name.size + q.addr.size + q.note.size ≤ 1048576
                  · have t1i : (q.name.size : Int) ≤ 1048576 := by omega
                    have t2i : (z : Int) + (q.name.size : Int) ≤ 1048576 := by omega
                    have t3i : (q.addr.size : Int) ≤ 1048576 := by omega
                    have t4i : (z : Int) + (q.name.size : Int) + (q.addr.size : Int) ≤ 1048576 := by omega
                    have t5i : (q.note.size : Int) ≤ 1048576 := by omega
                    have t6i : (z : Int) + (q.name.size : Int) + (q.addr.size : Int) + (q.note.size : Int) ≤ 1048576 := by omega
                    go_wp2
                    go_roundg (gk - 1)
                    case measure => have := Hk.out; omega
                    case rel => exact ⟨k + 1, z + q.name.size + q.addr.size + q.note.size, by have := Hk.out; omega, by go_num, by go_num, t6, by rw [sumBy_take_succ _ _ _ _ Hqk.out, Hzs.out]; unfold Nd.cost; omega, rfl⟩
                  · have t1i : (q.name.size : Int) ≤ 1048576 := by omega
                    have t2i : (z : Int) + (q.name.size : Int) ≤ 1048576 := by omega
                    have t3i : (q.addr.size : Int) ≤ 1048576 := by omega
                    have t4i : (z : Int) + (q.name.size : Int) + (q.addr.size : Int) ≤ 1048576 := by omega
                    have t5i : (q.note.size : Int) ≤ 1048576 := by omega
                    have t6i : ¬ (z : Int) + (q.name.size : Int) + (q.addr.size : Int) + (q.note.size : Int) ≤ 1048576 := by omega
                    go_wp2
                    go_ret
                    exact BoolSaid.no _ _
                · have t1i : (q.name.size : Int) ≤ 1048576 := by omega
                  have t2i : (z : Int) + (q.name.size : Int) ≤ 1048576 := by omega
                  have t3i : (q.addr.size : Int) ≤ 1048576 := by omega
                  have t4i : (z : Int) + (q.name.size : Int) + (q.addr.size : Int) ≤ 1048576 := by omega
                  have t5i : ¬ (q.note.size : Int) ≤ 1048576 := by omega
                  go_wp2
                  go_ret
                  exact BoolSaid.no _ _
              · have t1i : (q.name.size : Int) ≤ 1048576 := by omega
                have t2i : (z : Int) + (q.name.size : Int) ≤ 1048576 := by omega
                have t3i : (q.addr.size : Int) ≤ 1048576 := by omega
                have t4i : ¬ (z : Int) + (q.name.size : Int) + (q.addr.size : Int) ≤ 1048576 := by omega
                go_wp2
                go_ret
                exact BoolSaid.no _ _
            · have t1i : (q.name.size : Int) ≤ 1048576 := by omega
              have t2i : (z : Int) + (q.name.size : Int) ≤ 1048576 := by omega
              have t3i : ¬ (q.addr.size : Int) ≤ 1048576 := by omega
              go_wp2
              go_ret
              exact BoolSaid.no _ _
          · have t1i : (q.name.size : Int) ≤ 1048576 := by omega
            have t2i : ¬ (z : Int) + (q.name.size : Int) ≤ 1048576 := by omega
            go_wp2
            go_ret
            exact BoolSaid.no _ _
        · have t1i : ¬ (q.name.size : Int) ≤ 1048576 := by omega
          go_wp2
          go_ret
          exact BoolSaid.no _ _
      · have hleq : (ns.length : Int) ≤ (k : Int) := by have := Hk.out; omega
        go_wp2
        go_ret
        refine BoolSaid.yes _ ?_
        have h1 := Hzs.out
        rw [List.take_of_length_le (by have := Hk.out; omega)] at h1
        unfold listCost
        omega
  · have hq1i : ¬ (ns.length : Int) ≤ 1048576 := by omega
    go_enter Tryd.func8, Tryd.ntmps8
    go_wp2
    go_ret
    exact BoolSaid.no _ _

set_option maxHeartbeats 4000000 in
set_option maxRecDepth 20000 in
theorem zzBytes19 (rev : Int) (kk pp qq : Int) (ns : List Nd) (qa : Option Addr) (qc : Nat) (w : World) (hql : ns.length ≤ 9223372036854775807) (hq : ARows qa 4 (ns.map Nd.cells) w)
    (hqs : ∀ q ∈ ns, q.name.size ≤ 9223372036854775807 ∧ q.addr.size ≤ 9223372036854775807 ∧ q.note.size ≤ 9223372036854775807) :
    Calls Tryd.prog 19 #[.int .i64 rev, .slice qa ns.length qc, .int .i64 kk, .int .i64 pp, .int .i64 qq] w (BoolSaid w (listCost ns ≤ 1048576)) := by
  have Hqs := Lib.hid hqs
  clear hqs
  by_cases hq1 : ns.length ≤ 1048576
  · have hq1i : (ns.length : Int) ≤ 1048576 := by omega
    go_enter Tryd.func19, Tryd.ntmps19
    go_wp2
    go_loopg [11, 12] ns.length (fun gk zv kv wr => ∃ k z : Nat, gk + k = ns.length ∧ kv = .int .i64 (k : Int) ∧ zv = .int .i64 (z : Int) ∧ z ≤ 1048576 ∧ z = ns.length + sumBy Nd.cost (ns.take k) ∧ w = wr)
    case atStart => exact ⟨0, ns.length, by omega, rfl, rfl, hq1, by simp [sumBy], rfl⟩
    case round =>
      obtain ⟨k, z, hk, rfl, rfl, hz, hzs, hw⟩ := hrel
      subst hw
      have Hk := Lib.hid hk
      have Hzs := Lib.hid hzs
      have hzi : (z : Int) ≤ 1048576 := by omega
      clear hk hzs
      by_cases hlt : k < ns.length
      · have hqk : ns[k]? = some ns[k] := List.getElem?_eq_getElem hlt
        generalize ns[k] = q at hqk
        have hr : (ns.map Nd.cells)[k]? = some q.cells := by rw [List.getElem?_map, hqk]; rfl
        have hlti : (k : Int) < (ns.length : Int) := by omega
        have hk0 : (0 : Int) ≤ (k : Int) := by omega
        obtain ⟨hs1, hs2, hs3⟩ := Hqs.out q (List.mem_of_getElem? hqk)
        have Hqk := Lib.hid hqk
        rcases hq with he | ⟨qb, qo, rfl, hqb, hc⟩
        · rw [he] at hr; simp at hr
        have a0 := hc k _ hr 0 _ rfl
        have a1 := hc k _ hr 1 _ rfl
        have a3 := hc k _ hr 3 _ rfl
        simp only [Nat.add_zero] at a0
        clear hc hqk hr
        by_cases t1 : q.name.size ≤ 1048576
        · by_cases t2 : z + q.name.size ≤ 1048576
          · by_cases t3 : q.addr.size ≤ 1048576
            · by_cases t4 : z + q.name.size + q.addr.size ≤ 1048576
              · by_cases t5 : q.note.size ≤ 1048576
                · by_cases t6 : z + q.name.size + q.addr.size + q.note.size ≤ 1048576
                  · have t1i : (q.name.size : Int) ≤ 1048576 := by omega
                    have t2i : (z : Int) + (q.name.size : Int) ≤ 1048576 := by omega
                    have t3i : (q.addr.size : Int) ≤ 1048576 := by omega
                    have t4i : (z : Int) + (q.name.size : Int) + (q.addr.size : Int) ≤ 1048576 := by omega
                    have t5i : (q.note.size : Int) ≤ 1048576 := by omega
                    have t6i : (z : Int) + (q.name.size : Int) + (q.addr.size : Int) + (q.note.size : Int) ≤ 1048576 := by omega
                    go_wp2
                    go_roundg (gk - 1)
                    case measure => have := Hk.out; omega
                    case rel => exact ⟨k + 1, z + q.name.size + q.addr.size + q.note.size, by have := Hk.out; omega, by go_num, by go_num, t6, by rw [sumBy_take_succ _ _ _ _ Hqk.out, Hzs.out]; unfold Nd.cost; omega, rfl⟩
                  · have t1i : (q.name.size : Int) ≤ 1048576 := by omega
                    have t2i : (z : Int) + (q.name.size : Int) ≤ 1048576 := by omega
                    have t3i : (q.addr.size : Int) ≤ 1048576 := by omega
                    have t4i : (z : Int) + (q.name.size : Int) + (q.addr.size : Int) ≤ 1048576 := by omega
                    have t5i : (q.note.size : Int) ≤ 1048576 := by omega
                    have t6i : ¬ (z : Int) + (q.name.size : Int) + (q.addr.size : Int) + (q.note.size : Int) ≤ 1048576 := by omega
                    go_wp2
                    go_ret
                    exact BoolSaid.no _ _
                · have t1i : (q.name.size : Int) ≤ 1048576 := by omega
                  have t2i : (z : Int) + (q.name.size : Int) ≤ 1048576 := by omega
                  have t3i : (q.addr.size : Int) ≤ 1048576 := by omega
                  have t4i : (z : Int) + (q.name.size : Int) + (q.addr.size : Int) ≤ 1048576 := by omega
                  have t5i : ¬ (q.note.size : Int) ≤ 1048576 := by omega
                  go_wp2
                  go_ret
                  exact BoolSaid.no _ _
              · have t1i : (q.name.size : Int) ≤ 1048576 := by omega
                have t2i : (z : Int) + (q.name.size : Int) ≤ 1048576 := by omega
                have t3i : (q.addr.size : Int) ≤ 1048576 := by omega
                have t4i : ¬ (z : Int) + (q.name.size : Int) + (q.addr.size : Int) ≤ 1048576 := by omega
                go_wp2
                go_ret
                exact BoolSaid.no _ _
            · have t1i : (q.name.size : Int) ≤ 1048576 := by omega
              have t2i : (z : Int) + (q.name.size : Int) ≤ 1048576 := by omega
              have t3i : ¬ (q.addr.size : Int) ≤ 1048576 := by omega
              go_wp2
              go_ret
              exact BoolSaid.no _ _
          · have t1i : (q.name.size : Int) ≤ 1048576 := by omega
            have t2i : ¬ (z : Int) + (q.name.size : Int) ≤ 1048576 := by omega
            go_wp2
            go_ret
            exact BoolSaid.no _ _
        · have t1i : ¬ (q.name.size : Int) ≤ 1048576 := by omega
          go_wp2
          go_ret
          exact BoolSaid.no _ _
      · have hleq : (ns.length : Int) ≤ (k : Int) := by have := Hk.out; omega
        go_wp2
        go_ret
        refine BoolSaid.yes _ ?_
        have h1 := Hzs.out
        rw [List.take_of_length_le (by have := Hk.out; omega)] at h1
        unfold listCost
        omega
  · have hq1i : ¬ (ns.length : Int) ≤ 1048576 := by omega
    go_enter Tryd.func19, Tryd.ntmps19
    go_wp2
    go_ret
    exact BoolSaid.no _ _

set_option maxHeartbeats 4000000 in
set_option maxRecDepth 20000 in
theorem instsTooBig (ns : List Nd) (qa : Option Addr) (qc : Nat) (w : World) (hql : ns.length ≤ 1048576) (hq : ARows qa 4 (ns.map Nd.cells) w)
    (hqs : ∀ q ∈ ns, q.name.size ≤ 1048576 ∧ q.addr.size ≤ 1048576 ∧ q.note.size ≤ 1048576) :
    Calls Tryd.prog 9 #[.slice qa ns.length qc] w (BoolSaid w True) := by
  have Hqs := Lib.hid hqs
  clear hqs
  by_cases hq1 : ns.length ≤ 65536
  · by_cases hq2 : ns.length * 56 ≤ 1048576
    · have hq1i : (ns.length : Int) ≤ 65536 := by omega
      have hq2i : (ns.length : Int) * 56 ≤ 1048576 := by omega
      go_enter Tryd.func9, Tryd.ntmps9
      go_wp2
      go_loopg [3, 4, 5] ns.length (fun gk zv ov kv wr => ∃ (k : Nat) (z : Int), gk + k = ns.length ∧ kv = .int .i64 (k : Int) ∧ zv = .int .i64 z ∧ ov = .bool true ∧ 0 ≤ z ∧ z ≤ 1048576 ∧ w = wr)
      case atStart => exact ⟨0, (ns.length : Int) * 56, by omega, rfl, rfl, rfl, by omega, hq2i, rfl⟩
      case round =>
        obtain ⟨k, z, hk, rfl, rfl, rfl, hz0, hz1, hw⟩ := hrel
        subst hw
        have Hk := Lib.hid hk
        clear hk
        by_cases hlt : k < ns.length
        · have hqk : ns[k]? = some ns[k] := List.getElem?_eq_getElem hlt
          generalize ns[k] = q at hqk
          have hr : (ns.map Nd.cells)[k]? = some q.cells := by rw [List.getElem?_map, hqk]; rfl
          have hlti : (k : Int) < (ns.length : Int) := by omega
          have hk0 : (0 : Int) ≤ (k : Int) := by omega
          obtain ⟨hs1, hs2, hs3⟩ := Hqs.out q (List.mem_of_getElem? hqk)
          rcases hq with he | ⟨qb, qo, rfl, hqb, hc⟩
          · rw [he] at hr; simp at hr
          have a0 := hc k _ hr 0 _ rfl
          have a1 := hc k _ hr 1 _ rfl
          have a3 := hc k _ hr 3 _ rfl
          simp only [Nat.add_zero] at a0
          clear hc hqk hr
          have hz := zzAdd z (q.name.size : Int) w hz0 hz1 (by omega) (by omega)
          go_wp2_with (go_at_call 29; refine hz.mono ?_; rintro e w' ⟨y, b, rfl, rfl, hy0, hy1⟩; refine Hid.out ?_)
          refine Lib.hid ?_
          clear hz
          cases b
          · go_wp2
            go_ret
            exact BoolSaid.any _ _
          · have hz := zzAdd y (q.addr.size : Int) w hy0 hy1 (by omega) (by omega)
            go_wp2_with (go_at_call 29; refine hz.mono ?_; rintro e w' ⟨y2, b, rfl, rfl, hy20, hy21⟩; refine Hid.out ?_)
            refine Lib.hid ?_
            clear hz
            cases b
            · go_wp2
              go_ret
              exact BoolSaid.any _ _
            · have hz := zzAdd y2 (q.note.size : Int) w hy20 hy21 (by omega) (by omega)
              go_wp2_with (go_at_call 29; refine hz.mono ?_; rintro e w' ⟨y3, b, rfl, rfl, hy30, hy31⟩; refine Hid.out ?_)
              refine Lib.hid ?_
              clear hz
              cases b
              · go_wp2
                go_ret
                exact BoolSaid.any _ _
              · go_wp2
                go_roundg (gk - 1)
                case measure => have := Hk.out; omega
                case rel => exact ⟨k + 1, y3, by have := Hk.out; omega, by go_num, rfl, rfl, hy30, hy31, rfl⟩
        · have hleq : (ns.length : Int) ≤ (k : Int) := by have := Hk.out; omega
          go_wp2
          go_ret
          exact BoolSaid.any _ _
    · have hq1i : (ns.length : Int) ≤ 65536 := by omega
      have hq2i : ¬ (ns.length : Int) * 56 ≤ 1048576 := by omega
      go_enter Tryd.func9, Tryd.ntmps9
      go_wp2
      go_ret
      exact BoolSaid.any _ _
  · have hq1i : ¬ (ns.length : Int) ≤ 65536 := by omega
    go_enter Tryd.func9, Tryd.ntmps9
    go_wp2
    go_ret
    exact BoolSaid.any _ _
end Go.Proofs.Qxb6614442aDoor
