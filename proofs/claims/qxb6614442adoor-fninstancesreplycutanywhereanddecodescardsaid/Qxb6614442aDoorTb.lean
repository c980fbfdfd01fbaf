import Derived.Test.Qxb6614442aDoorZb
namespace Go.Proofs.Qxb6614442aDoor
open Go.RowKit

def AddSaid (w : World) (e : Ending) (w' : World) : Prop := ∃ (x : Int) (b : Bool), e = .returned (.tuple #[.int .i64 x, .bool b]) ∧ w = w' ∧ 0 ≤ x ∧ x ≤ 1048576

set_option maxHeartbeats 400000 in
theorem zzAdd (a n : Int) (w : World) (h0 : 0 ≤ a) (h1 : a ≤ 1048576) (h2 : 0 ≤ n) (h3 : n ≤ 4611686018427387904) : Calls Tryd.prog 29 #[.int .i64 a, .int .i64 n] w (AddSaid w) := by
  by_cases h : n ≤ 1048576 - a
  · go_enter Tryd.func29, Tryd.ntmps29
    go_wp2
    go_ret2
    exact ⟨a + n, true, rfl, rfl, by omega, by omega⟩
  · go_enter Tryd.func29, Tryd.ntmps29
    go_wp2
    go_ret2
    exact ⟨a, false, rfl, rfl, h0, h1⟩

theorem BoolSaid.any (w : World) (b : Bool) : BoolSaid w True (.returned (.bool b)) w := ⟨b, rfl, rfl, fun _ => trivial⟩

set_option maxHeartbeats 4000000 in
set_option maxRecDepth 20000 in
theorem routeTooBig (qs : List Qd) (qa : Option Addr) (qc : Nat) (bs : List Ba) (ba : Option Addr) (bc : Nat) (w : World) (hql : qs.length ≤ 1048576) (hq : ARows qa 4 (qs.map Qd.cells) w)
    (hbl : bs.length ≤ 1048576) (hb : ARows ba 3 (bs.map Ba.cells) w) (hml : ∀ m ∈ bs, m.d.mems.length ≤ 1048576 ∧ ARows m.ma 2 (m.d.mems.map Md.cells) w)
    (hqs : ∀ q ∈ qs, q.group.size ≤ 1048576) (hbs : ∀ m ∈ bs, m.d.group.size ≤ 1048576 ∧ m.d.cluster.size ≤ 1048576 ∧ ∀ x ∈ m.d.mems, x.addr.size ≤ 1048576) :
    Calls Tryd.prog 22 #[.slice qa qs.length qc, .slice ba bs.length bc] w (BoolSaid w True) := by
  have Hml := Lib.hid hml
  have Hbs := Lib.hid hbs
  have Hqs := Lib.hid hqs
  clear hml hbs hqs
  by_cases hq1 : qs.length ≤ 65536
  · by_cases hb1 : bs.length ≤ 65536
    · by_cases hq2 : qs.length * 40 ≤ 1048576
      · have hq1i : (qs.length : Int) ≤ 65536 := by omega
        have hb1i : (bs.length : Int) ≤ 65536 := by omega
        have hq2i : (qs.length : Int) * 40 ≤ 1048576 := by omega
        have hd1 : decide ((65536 : Int) < (qs.length : Int)) = false := by simp; omega
        have hd2 : decide ((65536 : Int) < (bs.length : Int)) = false := by simp; omega
        have hz := zzAdd ((qs.length : Int) * 40) ((bs.length : Int) * 56) w (by omega) hq2i (by omega) (by omega)
        go_enter Tryd.func22, Tryd.ntmps22
        go_wp2_with (go_at_call 29; refine hz.mono ?_; rintro e w' ⟨x, b, rfl, rfl, hx0, hx1⟩; refine Hid.out ?_)
        refine Lib.hid ?_
        clear hz
        cases b
        · go_wp2
          go_ret
          exact BoolSaid.any _ _
        · go_wp2
          go_loopg [5, 6, 7] qs.length (fun gk zv ov kv wr => ∃ (k : Nat) (z : Int), gk + k = qs.length ∧ kv = .int .i64 (k : Int) ∧ zv = .int .i64 z ∧ ov = .bool true ∧ 0 ≤ z ∧ z ≤ 1048576 ∧ w = wr)
          case atStart => exact ⟨0, x, by omega, rfl, rfl, rfl, hx0, hx1, rfl⟩
          case round =>
            obtain ⟨k, z, hk, rfl, rfl, rfl, hz0, hz1, hw⟩ := hrel
            subst hw
            have Hk := Lib.hid hk
            clear hk
            by_cases hlt : k < qs.length
            · have hqk : qs[k]? = some qs[k] := List.getElem?_eq_getElem hlt
              generalize qs[k] = q at hqk
              have hr : (qs.map Qd.cells)[k]? = some q.cells := by rw [List.getElem?_map, hqk]; rfl
              have hlti : (k : Int) < (qs.length : Int) := by omega
              have hk0 : (0 : Int) ≤ (k : Int) := by omega
              have hqsz := Hqs.out q (List.mem_of_getElem? hqk)
              rcases hq with he | ⟨qb, qo, rfl, hqb, hc⟩
              · rw [he] at hr; simp at hr
              have a0 := hc k _ hr 0 _ rfl
              simp only [Nat.add_zero] at a0
              clear hc hqk hr
              have hz := zzAdd z (q.group.size : Int) w hz0 hz1 (by omega) (by omega)
              go_wp2_with (go_at_call 29; refine hz.mono ?_; rintro e w' ⟨y, b, rfl, rfl, hy0, hy1⟩; refine Hid.out ?_)
              refine Lib.hid ?_
              clear hz
              cases b
              · go_wp2
                go_ret
                exact BoolSaid.any _ _
              · go_wp2
                go_roundg (gk - 1)
                case measure => have := Hk.out; omega
                case rel => exact ⟨k + 1, y, by have := Hk.out; omega, by go_num, rfl, rfl, hy0, hy1, rfl⟩
            · have hleq : (qs.length : Int) ≤ (k : Int) := by have := Hk.out; omega
              go_wp2
              go_loopg [5, 6, 8] bs.length (fun gk zv ov kv wr => ∃ (k : Nat) (z : Int), gk + k = bs.length ∧ kv = .int .i64 (k : Int) ∧ zv = .int .i64 z ∧ ov = .bool true ∧ 0 ≤ z ∧ z ≤ 1048576 ∧ w = wr)
              case atStart => exact ⟨0, z, by omega, rfl, rfl, rfl, hz0, hz1, rfl⟩
              case round =>
                obtain ⟨k, y, hk, rfl, rfl, rfl, hy0, hy1, hw⟩ := hrel
                subst hw
                have Hk2 := Lib.hid hk
                clear hk
                by_cases hlt2 : k < bs.length
                · have hbk : bs[k]? = some bs[k] := List.getElem?_eq_getElem hlt2
                  generalize bs[k] = m at hbk
                  obtain ⟨hm1, hm2⟩ := Hml.out m (List.mem_of_getElem? hbk)
                  obtain ⟨hg, hcl, hms⟩ := Hbs.out m (List.mem_of_getElem? hbk)
                  have hr : (bs.map Ba.cells)[k]? = some m.cells := by rw [List.getElem?_map, hbk]; rfl
                  have hlti : (k : Int) < (bs.length : Int) := by omega
                  have hk0 : (0 : Int) ≤ (k : Int) := by omega
                  rcases hb with he | ⟨bb, bo, rfl, hbb, hc⟩
                  · rw [he] at hr; simp at hr
                  have a0 := hc k _ hr 0 _ rfl
                  have a1 := hc k _ hr 1 _ rfl
                  have a2 := hc k _ hr 2 _ rfl
                  simp only [Nat.add_zero] at a0
                  have Hms := Lib.hid hms
                  have hmi : (m.d.mems.length : Int) ≤ 1048576 := by omega
                  clear hc hbk hr hms
                  have hz := zzAdd y (m.d.group.size : Int) w hy0 hy1 (by omega) (by omega)
                  go_wp2_with (go_at_call 29; refine hz.mono ?_; rintro e w' ⟨x1, b, rfl, rfl, hx10, hx11⟩; refine Hid.out ?_)
                  refine Lib.hid ?_
                  clear hz
                  cases b
                  · go_wp2
                    go_ret
                    exact BoolSaid.any _ _
                  · have hz := zzAdd x1 (m.d.cluster.size : Int) w hx10 hx11 (by omega) (by omega)
                    go_wp2_with (go_at_call 29; refine hz.mono ?_; rintro e w' ⟨x2, b, rfl, rfl, hx20, hx21⟩; refine Hid.out ?_)
                    refine Lib.hid ?_
                    clear hz
                    cases b
                    · go_wp2
                      go_ret
                      exact BoolSaid.any _ _
                    · by_cases hbig : m.d.mems.length ≤ 65536
                      · have hbigi : (m.d.mems.length : Int) ≤ 65536 := by omega
                        have hz := zzAdd x2 ((m.d.mems.length : Int) * 24) w hx20 hx21 (by omega) (by omega)
                        go_wp2_with (go_at_call 29; refine hz.mono ?_; rintro e w' ⟨x3, b, rfl, rfl, hx30, hx31⟩; refine Hid.out ?_)
                        refine Lib.hid ?_
                        clear hz
                        cases b
                        · go_wp2
                          go_ret
                          exact BoolSaid.any _ _
                        · go_wp2
                          obtain ⟨ko, rfl⟩ : ∃ ko : Nat, ko = k := ⟨_, rfl⟩
                          obtain ⟨go, rfl⟩ : ∃ go : Nat, go = gk := ⟨_, rfl⟩
                          go_loopg [5, 6, 10] m.d.mems.length (fun gk zv ov kv wr => ∃ (k : Nat) (z : Int), gk + k = m.d.mems.length ∧ kv = .int .i64 (k : Int) ∧ zv = .int .i64 z ∧ ov = .bool true ∧ 0 ≤ z ∧ z ≤ 1048576 ∧ w = wr)
                          case atStart => exact ⟨0, x3, by omega, rfl, rfl, rfl, hx30, hx31, rfl⟩
                          case round =>
                            obtain ⟨k, v, hk, rfl, rfl, rfl, hv0, hv1, hw⟩ := hrel
                            subst hw
                            have Hk3 := Lib.hid hk
                            clear hk
                            by_cases hlt3 : k < m.d.mems.length
                            · have hmk : m.d.mems[k]? = some m.d.mems[k] := List.getElem?_eq_getElem hlt3
                              generalize m.d.mems[k] = u at hmk
                              have hu := Hms.out u (List.mem_of_getElem? hmk)
                              have hr : (m.d.mems.map Md.cells)[k]? = some u.cells := by rw [List.getElem?_map, hmk]; rfl
                              have hlt3i : (k : Int) < (m.d.mems.length : Int) := by omega
                              have hk30 : (0 : Int) ≤ (k : Int) := by omega
                              rcases hm2 with he | ⟨mb, mo, hma, hmb, hc⟩
                              · rw [he] at hr; simp at hr
                              have p1 := hc k _ hr 1 _ rfl
                              have hix : ∀ W, (Instr.indexAt 55 (.slice m.ma m.d.mems.length m.mc) (.int .i64 (k : Int))).run Tryd.prog W = .ok (.pointer (some ⟨mb, mo + k * 2, none⟩)) W := by
                                intro W
                                rw [hma]
                                go_simp
                              clear hc hmk hr hma
                              have hz := zzAdd v (u.addr.size : Int) w hv0 hv1 (by omega) (by omega)
                              go_wp2_with (go_at_call 29; refine hz.mono ?_; rintro e w' ⟨x4, b, rfl, rfl, hx40, hx41⟩; refine Hid.out ?_)
                              refine Lib.hid ?_
                              clear hz
                              cases b
                              · go_wp2
                                go_ret
                                exact BoolSaid.any _ _
                              · go_wp2
                                go_roundg (gk - 1)
                                case measure => have := Hk3.out; omega
                                case rel => exact ⟨k + 1, x4, by have := Hk3.out; omega, by go_num, rfl, rfl, hx40, hx41, rfl⟩
                            · have hle3 : (m.d.mems.length : Int) ≤ (k : Int) := by have := Hk3.out; omega
                              go_wp2
                              go_roundg (go - 1)
                              case measure => have := Hk2.out; omega
                              case rel => exact ⟨ko + 1, v, by have := Hk2.out; omega, by go_num, rfl, rfl, hv0, hv1, rfl⟩
                      · have hbigi : ¬ (m.d.mems.length : Int) ≤ 65536 := by omega
                        go_wp2
                        go_ret
                        exact BoolSaid.any _ _
                · have hleb : (bs.length : Int) ≤ (k : Int) := by have := Hk2.out; omega
                  go_wp2
                  go_ret
                  exact BoolSaid.any _ _
      · have hq1i : (qs.length : Int) ≤ 65536 := by omega
        have hb1i : (bs.length : Int) ≤ 65536 := by omega
        have hq2i : ¬ (qs.length : Int) * 40 ≤ 1048576 := by omega
        go_enter Tryd.func22, Tryd.ntmps22
        go_wp2
        go_ret
        exact BoolSaid.any _ _
    · have hq1i : (qs.length : Int) ≤ 65536 := by omega
      have hb1i : ¬ (bs.length : Int) ≤ 65536 := by omega
      go_enter Tryd.func22, Tryd.ntmps22
      go_wp2
      go_ret
      exact BoolSaid.any _ _
  · have hq1i : ¬ (qs.length : Int) ≤ 65536 := by omega
    go_enter Tryd.func22, Tryd.ntmps22
    go_wp2
    go_ret
    exact BoolSaid.any _ _
end Go.Proofs.Qxb6614442aDoor
