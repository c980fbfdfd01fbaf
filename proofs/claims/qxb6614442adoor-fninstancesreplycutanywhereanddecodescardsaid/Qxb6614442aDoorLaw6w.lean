import Derived.Test.Qxb6614442aDoorLaw6
namespace Go.Proofs.Qxb6614442aDoor
open Go.RowKit

def TrueSaid (w : World) (e : Ending) (w' : World) : Prop := e = .returned (.bool true) ∧ Fr (fun _ => False) w w'

theorem owns_bytes {w : World} {r : Value} {l : List UInt8} (h : w.ownsRow 0 5 1 r l.length (Lib.byteCells l)) (hl : 0 < l.length) : ∃ g cap, r = .slice (some ⟨g, 0, none⟩) l.length cap ∧ BytesAt g l w := by
  rcases h.2 with ⟨rfl, h0⟩ | ⟨g, cap, cur, rfl, hb, hg, h1, h2, h3, h4⟩
  · omega
  · refine ⟨g, cap, rfl, fun j b hj => ?_⟩
    have hlt : j < l.length := (List.getElem?_eq_some_iff.1 hj).1
    have := Lib.bytes_of_row (l := l) hg (by rw [Nat.mul_one] at h4; exact h4) j hlt
    rw [(List.getElem?_eq_some_iff.1 hj).2] at this
    rw [show (⟨g, j, none⟩ : Addr) = (⟨g, 0, none⟩ : Addr).add j by simp [Addr.add]]
    exact this

set_option maxHeartbeats 8000000 in
set_option maxRecDepth 20000 in
theorem law6 (rev : Int) (qs : List Qd) (qa : Option Addr) (qc : Nat) (bs : List Ba) (ba : Option Addr) (bc : Nat) (w : World) (htab : Tab w) (hrev : i64 rev) (hql : qs.length ≤ 9223372036854775807) (hq : ARows qa 4 (qs.map Qd.cells) w)
    (hqi : ∀ q ∈ qs, i64 q.read ∧ i64 q.write ∧ i64 q.perm)
    (hbl : bs.length ≤ 9223372036854775807) (hb : ARows ba 3 (bs.map Ba.cells) w) (hml : ∀ m ∈ bs, m.d.mems.length ≤ 9223372036854775807 ∧ ARows m.ma 2 (m.d.mems.map Md.cells) w)
    (hmi : ∀ m ∈ bs, ∀ x ∈ m.d.mems, i64 x.id)
    (hqs : ∀ q ∈ qs, q.group.size ≤ 9223372036854775807) (hbs : ∀ m ∈ bs, m.d.group.size ≤ 9223372036854775807 ∧ m.d.cluster.size ≤ 9223372036854775807 ∧ ∀ x ∈ m.d.mems, x.addr.size ≤ 9223372036854775807) :
    Calls Tryd.prog 6 #[.int .i64 rev, .slice qa qs.length qc, .slice ba bs.length bc] w (TrueSaid w) := by
  have h21 := zzBytesRoute rev qs qa qc bs ba bc w hql hq hbl hb hml hqs hbs
  have Hq := Lib.hid hq
  have Hb := Lib.hid hb
  have Hqi := Lib.hid hqi
  have Hml := Lib.hid hml
  have Hmi := Lib.hid hmi
  clear hq hb hqi hml hmi hqs hbs
  go_enter Tryd.func6, Tryd.ntmps6
  go_wp2_with (go_at_call 21; refine h21.mono ?_; rintro e w' ⟨b, rfl, rfl, hcost⟩; refine Hid.out ?_)
  refine Lib.hid ?_
  clear h21
  cases b
  · go_wp2
    go_ret
    exact ⟨rfl, Fr.refl _ _⟩
  have hcost := hcost rfl
  have Hcost := Lib.hid hcost
  clear hcost
  have hql1 : qs.length ≤ 1048576 := by have := Hcost.out; unfold routeCost at this; omega
  have hbl1 : bs.length ≤ 1048576 := by have := Hcost.out; unfold routeCost at this; rw [List.length_map] at this; omega
  have Hbc : Hid (∀ m ∈ bs, Bd.cost m.d ≤ 1048576) := Lib.hid fun m hm => by
    have h1 := Hcost.out
    unfold routeCost at h1
    have h2 := mem_sumBy Bd.cost (bs.map Ba.d) m.d (List.mem_map_of_mem hm)
    omega
  have h22 := routeTooBig qs qa qc bs ba bc w' hql1 Hq.out hbl1 Hb.out
    (fun m hm => ⟨by have h1 := Hbc.out m hm; unfold Bd.cost at h1; omega, (Hml.out m hm).2⟩)
    (fun q hq => by
      have h1 := Hcost.out
      unfold routeCost at h1
      have h2 := mem_sumBy (fun q : Qd => q.group.size) qs q hq
      omega)
    (fun m hm => by
      have h1 := Hbc.out m hm
      unfold Bd.cost at h1
      refine ⟨by omega, by omega, fun x hx => ?_⟩
      have h2 := mem_sumBy (fun m : Md => m.addr.size) m.d.mems x hx
      omega)
  go_wp2_with (go_at_call 22; refine h22.mono ?_; rintro e w1 ⟨b, rfl, rfl, -⟩; refine Hid.out ?_)
  refine Lib.hid ?_
  clear h22
  cases b
  rotate_left
  · go_wp2
    go_ret
    exact ⟨rfl, Fr.refl _ _⟩
  have h23 := toRoute rev qs qa qc bs ba bc w1 hql1 Hq.out hbl1 Hb.out (fun m hm => ⟨by have h1 := Hbc.out m hm; unfold Bd.cost at h1; omega, (Hml.out m hm).2⟩)
  go_wp2_with (go_at_call 23; refine h23.mono ?_; rintro e w2 ⟨qg, bg, bl, rfl, hbl2, r1, r2, r3, hf2⟩; refine Hid.out ?_)
  refine Lib.hid ?_
  clear h23
  have hbln : bl.length = bs.length := by have := congrArg List.length hbl2; simpa using this
  have hlen : (encRoute rev qs (bs.map Ba.d)).length + 1000 ≤ 1073741824 := encRoute_len rev qs (bs.map Ba.d) hrev Hqi.out (fun b hb x hx => by
    obtain ⟨m, hm, rfl⟩ := List.mem_map.1 hb
    exact Hmi.out m hm x hx) Hcost.out
  have hfa : Fr (fun _ => False) w2 (w2.alloc (.cells #[.int .i64 rev, .slice (some ⟨qg, 0, none⟩) qs.length qs.length, .slice (some ⟨bg, 0, none⟩) bs.length bs.length] 48)) := (Fr.refl _ w2).alloc _
  have h24 := zzRoute rev qs bl qg qs.length bg bs.length (w2.alloc (.cells #[.int .i64 rev, .slice (some ⟨qg, 0, none⟩) qs.length qs.length, .slice (some ⟨bg, 0, none⟩) bs.length bs.length] 48)) ((htab.fr hf2 (fun h => h)).fr hfa (fun h => h)) hrev hql1 (hfa.rows_kept r1 (fun h => h)) Hqi.out (by omega) (hfa.rows_kept r2 (fun h => h))
    (fun m hm => by
      have hm2 : m.d ∈ bs.map Ba.d := by rw [← hbl2]; exact List.mem_map_of_mem hm
      obtain ⟨m', hm', he⟩ := List.mem_map.1 hm2
      refine ⟨?_, ?_, hfa.rows_kept (r3 m hm) (fun h => h)⟩
      · rw [← he]; have h1 := Hbc.out m' hm'; unfold Bd.cost at h1; omega
      · rw [← he]; exact Hmi.out m' hm') (by rw [hbl2]; exact hlen)
  rw [hbl2, hbln] at h24
  have Hf2 := Lib.hid (hf2.trans hfa (fun _ h => Or.inl h))
  have hbx : (w2.alloc (.cells #[.int .i64 rev, .slice (some ⟨qg, 0, none⟩) qs.length qs.length, .slice (some ⟨bg, 0, none⟩) bs.length bs.length] 48)).heap[w2.heap.size]? = some (.cells #[.int .i64 rev, .slice (some ⟨qg, 0, none⟩) qs.length qs.length, .slice (some ⟨bg, 0, none⟩) bs.length bs.length] 48 (0, 0)) := heap_alloc_new _ _
  have Hbx := Lib.hid hbx
  clear hbl2 hbln r1 r2 r3 hfa hf2 hbx
  go_wp2_with (go_at_call 24; refine h24.mono ?_; rintro e w4 ⟨rv, rfl, hown, hf4⟩; refine Hid.out ?_)
  refine Lib.hid ?_
  clear h24
  have hbx := hf4.heap Hbx.out (fun h => h)
  have c0 : w4.cell? ⟨w2.heap.size, 0, none⟩ = some (.int .i64 rev) := by rw [Lib.cell_of_heap hbx]; rfl
  have c1 : w4.cell? ⟨w2.heap.size, 1, none⟩ = some (.slice (some ⟨qg, 0, none⟩) qs.length qs.length) := by rw [Lib.cell_of_heap hbx]; rfl
  have c2 : w4.cell? ⟨w2.heap.size, 2, none⟩ = some (.slice (some ⟨bg, 0, none⟩) bs.length bs.length) := by rw [Lib.cell_of_heap hbx]; rfl
  have hf5 := Hf2.out.trans hf4 (fun _ h => Or.inl h)
  clear Hf2 Hbx hbx hf4
  have hl0 : 0 < (encRoute rev qs (bs.map Ba.d)).length := by simp [encRoute, num]
  generalize hll : encRoute rev qs (bs.map Ba.d) = l at hown hlen hl0
  obtain ⟨g, cap, rfl, hby⟩ := owns_bytes hown hl0
  obtain ⟨a0, Pq, Pb, hR⟩ := reads g cap l rev qs (bs.map Ba.d) hll.symm (by omega) hrev hql1 (by rw [List.length_map]; omega) Hqi.out (fun b hb => by
    obtain ⟨m, hm, rfl⟩ := List.mem_map.1 hb
    exact ⟨by have h1 := Hbc.out m hm; unfold Bd.cost at h1; omega, Hmi.out m hm⟩)
  have Hown := Lib.hid hown
  have Hll := Lib.hid hll
  have HR := Lib.hid hR
  clear hown hll hl0 hR
  have h25 := zzElems (.int .i64 rev) (.slice (some ⟨qg, 0, none⟩) qs.length qs.length) (.slice (some ⟨bg, 0, none⟩) bs.length bs.length) w4 rfl rfl rfl
  go_wp2_with (go_at_call 25; refine h25.mono ?_; rintro e w5 ⟨rfl, hf6⟩; refine Hid.out ?_)
  refine Lib.hid ?_
  have Hf := Lib.hid (hf5.trans hf6 (fun _ h => Or.inl h))
  have hby5 : BytesAt g l w5 := fun j b hj => hf6.cell (hby j b hj) (fun h => h)
  have Hby := Lib.hid hby5
  clear h25 c0 c1 c2 hby hf5 hf6 Hown hby5
  have h12 : Calls Tryd.prog 12 #[.slice (some ⟨g, 0, none⟩) l.length cap, .int .i64 0, .int .u8 58] w5 _ := HR.out.h0 w5 Hby.out
  go_wp2_with (go_at_call 12; refine h12.mono ?_; rintro e w' ⟨rfl, rfl⟩; refine Hid.out ?_)
  refine Lib.hid ?_
  clear h12
  have h12 := HR.out.h1 w' Hby.out
  go_wp2_with (go_at_call 12; refine h12.mono ?_; rintro e w5 ⟨rfl, rfl⟩; refine Hid.out ?_)
  refine Lib.hid ?_
  clear h12
  go_wp2
  go_loopg [11, 12, 13, 14] qs.length (fun gk vv pv ov kv wr => ∃ (k : Nat) (v : Int), gk + k = qs.length ∧ kv = .int .i64 (k : Int) ∧ vv = .int .i64 v ∧ pv = .int .i64 (Pq k : Int) ∧ ov = .bool true ∧ BytesAt g l wr ∧ Fr (fun _ => False) w1 wr)
  case atStart => exact ⟨0, _, by omega, rfl, rfl, rfl, rfl, Hby.out, Hf.out⟩
  case round =>
    obtain ⟨k, v, hk, rfl, rfl, rfl, rfl, hby, hfr⟩ := hrel
    have Hk := Lib.hid hk
    have Hby1 := Lib.hid hby
    have Hfr := Lib.hid hfr
    clear hk hby hfr
    by_cases hlt : k < qs.length
    · have hqk : qs[k]? = some qs[k] := List.getElem?_eq_getElem hlt
      generalize qs[k] = q at hqk
      obtain ⟨a1, a2, a3, a4, n1, n2, n3, n4, n5⟩ := HR.out.hq k q hqk
      have hr : (qs.map Qd.cells)[k]? = some q.cells := by rw [List.getElem?_map, hqk]; rfl
      have hlti : (k : Int) < (qs.length : Int) := by omega
      have hk0 : (0 : Int) ≤ (k : Int) := by omega
      have hq := Hq.out.fr Hfr.out
      rcases hq with he | ⟨qb, qo, rfl, hqb, hc⟩
      · rw [he] at hr; simp at hr
      have c0 := hc k _ hr 0 _ rfl
      simp only [Nat.add_zero] at c0
      have N2 := Lib.hid n2
      have N3 := Lib.hid n3
      have N4 := Lib.hid n4
      have N5 := Lib.hid n5
      have Hr := Lib.hid hr
      have h12 := n1 wr Hby1.out
      clear n1 n2 n3 n4 n5 hc hqk hr
      go_wp2_with (go_at_call 12; refine h12.mono ?_; rintro e w' ⟨rfl, rfl⟩; refine Hid.out ?_)
      refine Lib.hid ?_
      clear h12
      have h26 := N2.out w' Hby1.out
      go_wp2_with (go_at_call 26; refine h26.mono ?_; rintro e w6 ⟨rfl, hby6, hf6⟩; refine Hid.out ?_)
      refine Lib.hid ?_
      have Hby6 := Lib.hid hby6
      have Hf6 := Lib.hid (Hfr.out.trans hf6 (fun _ h => Or.inl h))
      have hq := Hq.out.fr Hf6.out
      rcases hq with he | ⟨qb', qo', hab, hqb', hc⟩
      · have hr := Hr.out; rw [he] at hr; simp at hr
      injection hab with hab
      injection hab with hab1 hab2
      subst hab1 hab2
      have c1 := hc k _ Hr.out 1 _ rfl
      have c2 := hc k _ Hr.out 2 _ rfl
      have c3 := hc k _ Hr.out 3 _ rfl
      clear h26 hby6 hf6 c0 hqb hc
      have h12 := N3.out w6 Hby6.out
      go_wp2_with (go_at_call 12; refine h12.mono ?_; rintro e w' ⟨rfl, rfl⟩; refine Hid.out ?_)
      refine Lib.hid ?_
      clear h12
      have h12 := N4.out w' Hby6.out
      go_wp2_with (go_at_call 12; refine h12.mono ?_; rintro e w6 ⟨rfl, rfl⟩; refine Hid.out ?_)
      refine Lib.hid ?_
      clear h12
      have h12 := N5.out w6 Hby6.out
      go_wp2_with (go_at_call 12; refine h12.mono ?_; rintro e w' ⟨rfl, rfl⟩; refine Hid.out ?_)
      refine Lib.hid ?_
      clear h12
      go_wp2
      go_roundg (gk - 1)
      case measure => have := Hk.out; omega
      case rel => exact ⟨k + 1, _, by have := Hk.out; omega, by go_num, rfl, rfl, rfl, Hby6.out, Hf6.out⟩
    · have hleq : (qs.length : Int) ≤ (k : Int) := by have := Hk.out; omega
      have hkq : k = qs.length := by have := Hk.out; omega
      have h12 := HR.out.h2 wr Hby1.out
      rw [List.length_map] at h12
      subst hkq
      go_wp2_with (go_at_call 12; refine h12.mono ?_; rintro e w' ⟨rfl, rfl⟩; refine Hid.out ?_)
      refine Lib.hid ?_
      clear h12
      go_wp2
      go_loopg [11, 12, 13, 15] bs.length (fun gk vv pv ov kv wr => ∃ (k : Nat) (v : Int), gk + k = bs.length ∧ kv = .int .i64 (k : Int) ∧ vv = .int .i64 v ∧ pv = .int .i64 (Pb k : Int) ∧ ov = .bool true ∧ BytesAt g l wr ∧ Fr (fun _ => False) w1 wr)
      case atStart => exact ⟨0, _, by omega, rfl, rfl, rfl, rfl, Hby1.out, Hfr.out⟩
      case round =>
        obtain ⟨k, v2, hk, rfl, rfl, rfl, rfl, hby, hfr⟩ := hrel
        have Hk2 := Lib.hid hk
        have Hby2 := Lib.hid hby
        have Hfr2 := Lib.hid hfr
        clear hk hby hfr Hby1 Hfr Hk
        by_cases hlt2 : k < bs.length
        · have hbk : bs[k]? = some bs[k] := List.getElem?_eq_getElem hlt2
          generalize bs[k] = m at hbk
          obtain ⟨a1, a2, a3, Pm, n1, n2, n3, n4, n5, n6⟩ := HR.out.hb k m.d (by rw [List.getElem?_map, hbk]; rfl)
          have hmm := List.mem_of_getElem? hbk
          have Hm := Lib.hid (Hml.out m hmm)
          have hm1 : m.d.mems.length ≤ 9223372036854775807 := Hm.out.1
          have hr : (bs.map Ba.cells)[k]? = some m.cells := by rw [List.getElem?_map, hbk]; rfl
          have hlti : (k : Int) < (bs.length : Int) := by omega
          have hk0 : (0 : Int) ≤ (k : Int) := by omega
          have hb := Hb.out.fr Hfr2.out
          rcases hb with he | ⟨bb, bo, rfl, hbb, hc⟩
          · rw [he] at hr; simp at hr
          have c0 := hc k _ hr 0 _ rfl
          simp only [Nat.add_zero] at c0
          have N2 := Lib.hid n2
          have N3 := Lib.hid n3
          have N4 := Lib.hid n4
          have N5 := Lib.hid n5
          have N6 := Lib.hid n6
          have Hr := Lib.hid hr
          have h12 := n1 wr Hby2.out
          clear n1 n2 n3 n4 n5 n6 hc hbk hr hmm
          go_wp2_with (go_at_call 12; refine h12.mono ?_; rintro e w' ⟨rfl, rfl⟩; refine Hid.out ?_)
          refine Lib.hid ?_
          clear h12
          have h26 := N2.out w' Hby2.out
          go_wp2_with (go_at_call 26; refine h26.mono ?_; rintro e w6 ⟨rfl, hby6, hf6⟩; refine Hid.out ?_)
          refine Lib.hid ?_
          have Hby6 := Lib.hid hby6
          have Hf6 := Lib.hid (Hfr2.out.trans hf6 (fun _ h => Or.inl h))
          have hb := Hb.out.fr Hf6.out
          rcases hb with he | ⟨bb', bo', hab, hbb', hc⟩
          · have hr := Hr.out; rw [he] at hr; simp at hr
          injection hab with hab
          injection hab with hab1 hab2
          subst hab1 hab2
          have c1 := hc k _ Hr.out 1 _ rfl
          clear h26 hby6 hf6 c0 hbb hc
          have h26 := N3.out w6 Hby6.out
          go_wp2_with (go_at_call 26; refine h26.mono ?_; rintro e w7 ⟨rfl, hby7, hf7⟩; refine Hid.out ?_)
          refine Lib.hid ?_
          have Hby7 := Lib.hid hby7
          have Hf7 := Lib.hid (Hf6.out.trans hf7 (fun _ h => Or.inl h))
          have hb := Hb.out.fr Hf7.out
          rcases hb with he | ⟨bb', bo', hab, hbb, hc⟩
          · have hr := Hr.out; rw [he] at hr; simp at hr
          injection hab with hab
          injection hab with hab1 hab2
          subst hab1 hab2
          have c2 := hc k _ Hr.out 2 _ rfl
          clear h26 hby7 hf7 c1 hbb' hc
          have h12 := N4.out w7 Hby7.out
          go_wp2_with (go_at_call 12; refine h12.mono ?_; rintro e w' ⟨rfl, rfl⟩; refine Hid.out ?_)
          refine Lib.hid ?_
          clear h12
          go_wp2
          obtain ⟨ko, rfl⟩ : ∃ ko : Nat, ko = k := ⟨_, rfl⟩
          obtain ⟨go, rfl⟩ : ∃ go : Nat, go = gk := ⟨_, rfl⟩
          clear c2 Hby6 Hf6 Hby2 Hfr2
          go_loopg [11, 12, 13, 17] m.d.mems.length (fun gk vv pv ov kv wr => ∃ (k : Nat) (v : Int), gk + k = m.d.mems.length ∧ kv = .int .i64 (k : Int) ∧ vv = .int .i64 v ∧ pv = .int .i64 (Pm k : Int) ∧ ov = .bool true ∧ BytesAt g l wr ∧ Fr (fun _ => False) w1 wr)
          case atStart => exact ⟨0, _, by omega, rfl, rfl, rfl, rfl, Hby7.out, Hf7.out⟩
          case round =>
            obtain ⟨k, v3, hk, rfl, rfl, rfl, rfl, hby, hfr⟩ := hrel
            have Hk3 := Lib.hid hk
            have Hby3 := Lib.hid hby
            have Hfr3 := Lib.hid hfr
            clear hk hby hfr Hby7 Hf7
            by_cases hlt3 : k < m.d.mems.length
            · have hmk : m.d.mems[k]? = some m.d.mems[k] := List.getElem?_eq_getElem hlt3
              generalize m.d.mems[k] = u at hmk
              obtain ⟨b1, b2, n1, n2, n3⟩ := N5.out k u hmk
              have hr : (m.d.mems.map Md.cells)[k]? = some u.cells := by rw [List.getElem?_map, hmk]; rfl
              have hlt3i : (k : Int) < (m.d.mems.length : Int) := by omega
              have hk30 : (0 : Int) ≤ (k : Int) := by omega
              have hm2 := Hm.out.2.fr Hfr3.out
              rcases hm2 with he | ⟨mb, mo, hma, hmb, hc⟩
              · rw [he] at hr; simp at hr
              have c0 := hc k _ hr 0 _ rfl
              have c1 := hc k _ hr 1 _ rfl
              simp only [Nat.add_zero] at c0
              have hix : ∀ W, (Instr.indexAt 55 (.slice m.ma m.d.mems.length m.mc) (.int .i64 (k : Int))).run Tryd.prog W = .ok (.pointer (some ⟨mb, mo + k * 2, none⟩)) W := by
                intro W
                rw [hma]
                go_simp
              have N7 := Lib.hid n2
              have N8 := Lib.hid n3
              have h12 := n1 wr Hby3.out
              clear n1 n2 n3 hc hmk hr hma
              go_wp2_with (go_at_call 12; refine h12.mono ?_; rintro e w' ⟨rfl, rfl⟩; refine Hid.out ?_)
              refine Lib.hid ?_
              clear h12
              have h12 := N7.out w' Hby3.out
              go_wp2_with (go_at_call 12; refine h12.mono ?_; rintro e w6 ⟨rfl, rfl⟩; refine Hid.out ?_)
              refine Lib.hid ?_
              clear h12
              have h26 := N8.out w6 Hby3.out
              go_wp2_with (go_at_call 26; refine h26.mono ?_; rintro e w7 ⟨rfl, hby6, hf6⟩; refine Hid.out ?_)
              refine Lib.hid ?_
              have Hby6 := Lib.hid hby6
              have Hf6 := Lib.hid (Hfr3.out.trans hf6 (fun _ h => Or.inl h))
              clear h26 hby6 hf6 c0 c1
              go_wp2
              go_roundg (gk - 1)
              case measure => have := Hk3.out; omega
              case rel => exact ⟨k + 1, _, by have := Hk3.out; omega, by go_num, rfl, rfl, rfl, Hby6.out, Hf6.out⟩
            · have hle3 : (m.d.mems.length : Int) ≤ (k : Int) := by have := Hk3.out; omega
              go_wp2
              go_roundg (go - 1)
              case measure => have := Hk2.out; omega
              case rel => exact ⟨ko + 1, _, by have := Hk2.out; omega, by go_num, rfl, by
                have h1 : k = m.d.mems.length := by have := Hk3.out; omega
                rw [h1, N6.out], rfl, Hby3.out, Hfr3.out⟩
        · have hleb : (bs.length : Int) ≤ (k : Int) := by have := Hk2.out; omega
          have hkb : k = bs.length := by have := Hk2.out; omega
          have h3 : Pb k = l.length := by rw [hkb]; have := HR.out.h3; rw [List.length_map] at this; exact this
          rw [h3]
          clear hkb
          go_wp2
          go_ret
          exact ⟨rfl, Hfr2.out⟩
end Go.Proofs.Qxb6614442aDoor
