import Derived.Test.Qxb6614442aDoorLaw5
namespace Go.Proofs.Qxb6614442aDoor
open Go.RowKit

def rhead (rev n : Int) : List UInt8 := num 42 2 ++ head rev n

theorem encReply_len (rev : Int) (ns : List Nd) (hrev : i64 rev) (hi : ∀ x ∈ ns, i64 x.weight) (hc : listCost ns ≤ 1048576) : (encReply rev ns).length ≤ 132120628 := by
  have h := encList_len rev ns hrev hi hc
  unfold encReply
  rw [List.length_append, num_two]
  simp
  omega

/-- The plain law: a list's bytes, cut in two. -/
structure CutR (rev : Int) (ns : List Nd) (k : Nat) (ta tb : List Nd) (lw lt lu rt ru : List UInt8) : Prop where
  ha : ta = ns.take k
  hb : tb = ns.drop k
  al : ta.length = k
  bl : (tb.length : Int) = (ns.length : Int) - (k : Int)
  ew : encReply rev ns = lw
  et : encReply rev ta = lt
  eu : encReply rev tb = lu
  pt : lt = rhead rev (k : Int) ++ rt
  pu : lu = rhead rev ((ns.length : Int) - (k : Int)) ++ ru
  pw : lw = rhead rev (ns.length : Int) ++ (rt ++ ru)
  lw0 : 0 < lw.length
  lt0 : 0 < lt.length
  lu0 : 0 < lu.length
  lwb : lw.length ≤ 132120628
  ltb : lt.length ≤ 132120628
  lub : lu.length ≤ 132120628
  ia : ∀ q ∈ ta, i64 q.weight
  ib : ∀ q ∈ tb, i64 q.weight
  na : ta.length ≤ 1048576
  nb : tb.length ≤ 1048576

theorem cutR_of (rev : Int) (ns : List Nd) (k : Nat) (hrev : i64 rev) (hi : ∀ q ∈ ns, i64 q.weight) (hc : listCost ns ≤ 1048576) (hk : k ≤ ns.length) : ∃ ta tb lw lt lu rt ru, CutR rev ns k ta tb lw lt lu rt ru := by
  have hia : ∀ q ∈ ns.take k, i64 q.weight := fun q hq => hi q (List.mem_of_mem_take hq)
  have hib : ∀ q ∈ ns.drop k, i64 q.weight := fun q hq => hi q (List.mem_of_mem_drop hq)
  have hal : (ns.take k).length = k := by rw [List.length_take]; omega
  have hbl : ((ns.drop k).length : Int) = (ns.length : Int) - (k : Int) := by rw [List.length_drop]; omega
  have hnl : ns.length ≤ 1048576 := by unfold listCost at hc; omega
  refine ⟨ns.take k, ns.drop k, encReply rev ns, encReply rev (ns.take k), encReply rev (ns.drop k), encAll Nd.enc (ns.take k), encAll Nd.enc (ns.drop k), ⟨rfl, rfl, hal, hbl, rfl, rfl, rfl, ?_, ?_, ?_, by simp [encReply, num], by simp [encReply, num], by simp [encReply, num], encReply_len _ _ hrev hi hc, encReply_len _ _ hrev hia (listCost_take ns k hc), encReply_len _ _ hrev hib (listCost_drop ns k hc), hia, hib, by omega, by rw [List.length_drop]; omega⟩⟩
  · unfold encReply encList rhead head; rw [hal]; simp
  · unfold encReply encList rhead head; rw [hbl]; simp
  · unfold encReply encList rhead head
    have : encAll Nd.enc (ns.take k) ++ encAll Nd.enc (ns.drop k) = encAll Nd.enc ns := by unfold encAll; rw [← List.flatMap_append, List.take_append_drop]
    rw [this]; simp


theorem rhead_len (rev n : Int) (h1 : i64 rev) (h2 : i64 n) : (rhead rev n).length ≤ 52 := by
  have l1 := head_len rev n h1 h2
  unfold rhead
  rw [List.length_append, num_two]
  simp
  omega
theorem rhead_pos (rev n : Int) : 0 < (rhead rev n).length := by simp [rhead, num]
theorem replyHeaderR (rev n : Int) (hrev : i64 rev) (hn : i64 n) (w : World) : Calls Tryd.prog 15 #[.int .i64 rev, .int .i64 n] w (RowSaid (rhead rev n) w) := replyHeader rev n hrev hn w

set_option maxHeartbeats 16000000 in
set_option maxRecDepth 20000 in
theorem law3 (rev kk : Int) (ns : List Nd) (qa : Option Addr) (qc : Nat) (hcap : ns.length ≤ qc) (w : World) (htab : Tab w) (hrev : i64 rev) (hql : ns.length ≤ 9223372036854775807) (hq : ARows qa 4 (ns.map Nd.cells) w)
    (hqi : ∀ q ∈ ns, i64 q.weight) (hqs : ∀ q ∈ ns, q.name.size ≤ 9223372036854775807 ∧ q.addr.size ≤ 9223372036854775807 ∧ q.note.size ≤ 9223372036854775807) :
    Calls Tryd.prog 3 #[.int .i64 rev, .slice qa ns.length qc, .int .i64 kk] w (TrueSaid w) := by
  have h21 := zzBytes8 rev kk ns qa qc w hql hq hqs
  have Hq := Lib.hid hq
  have Hqi := Lib.hid hqi
  clear hq hqi hqs
  go_enter Tryd.func3, Tryd.ntmps3
  go_wp2_with (go_at_call 8; refine h21.mono ?_; rintro e w' ⟨b, rfl, rfl, hcost⟩; refine Hid.out ?_)
  refine Lib.hid ?_
  clear h21
  cases b
  · go_wp2
    go_ret
    exact ⟨rfl, Fr.refl _ _⟩
  have hcost := hcost rfl
  have Hcost := Lib.hid hcost
  clear hcost
  obtain ⟨hql1, hsz1⟩ := cost_of ns Hcost.out
  have h22 := instsTooBig ns qa qc w' hql1 Hq.out hsz1
  clear hsz1
  go_wp2_with (go_at_call 9; refine h22.mono ?_; rintro e w1 ⟨b, rfl, rfl, -⟩; refine Hid.out ?_)
  refine Lib.hid ?_
  clear h22
  cases b
  rotate_left
  · go_wp2
    go_ret
    exact ⟨rfl, Fr.refl _ _⟩
  by_cases hk0 : kk < 0
  · go_wp2
    go_ret
    exact ⟨rfl, Fr.refl _ _⟩
  by_cases hk1 : (ns.length : Int) < kk
  · have hk0' : 0 ≤ kk := by omega
    go_wp2
    go_ret
    exact ⟨rfl, Fr.refl _ _⟩
  obtain ⟨k, rfl⟩ : ∃ k : Nat, kk = (k : Int) := ⟨kk.toNat, by omega⟩
  have hkn : k ≤ ns.length := by omega
  have hki : (k : Int) ≤ (ns.length : Int) := by omega
  have hki0 : (0 : Int) ≤ (k : Int) := by omega
  clear hk0 hk1
  obtain ⟨ta, tb, lw, lt, lu, rt, ru, hC⟩ := cutR_of rev ns k hrev Hqi.out Hcost.out hkn
  have HC := Lib.hid hC
  have hsh := fun W => cut_h qa ns.length qc k (by omega) W
  obtain ⟨qb, cb, hsl, hqB⟩ := cut_l ns qa qc k w1 hkn hcap Hq.out
  rw [← hC.hb] at hsl hqB
  have HqB := Lib.hid hqB
  clear hC hqB
  · skip
    have h11 := toList rev ns qa qc w1 hql1 Hq.out
    go_wp2_with (go_at_call 11; refine h11.mono ?_; rintro e w2 ⟨qg, rfl, r1, hf2⟩; refine Hid.out ?_)
    refine Lib.hid ?_
    clear h11
    have h18 := instancesReply rev ns qg ns.length w2 (htab.fr hf2 (fun h => h)) hrev hql1 r1 Hqi.out (by rw [HC.out.ew]; have := HC.out.lwb; omega)
    rw [HC.out.ew] at h18
    have Hf2 := Lib.hid hf2
    clear r1 hf2
    go_wp2_with (go_at_call 10; refine h18.mono ?_; rintro e w3 ⟨rv, rfl, hown, hf3⟩; refine Hid.out ?_)
    refine Lib.hid ?_
    clear h18
    obtain ⟨gw, cw, rfl, hyw, -⟩ := owns_bytes2 hown HC.out.lw0
    have Yw3 := Lib.hid hyw
    have Hf3 := Lib.hid (Hf2.out.trans hf3 (fun _ h => Or.inl h))
    clear hown hyw hf3 Hf2
    have h11 := toList rev ta qa qc w3 HC.out.na (by have := (Hq.out.take k).fr Hf3.out; rw [← HC.out.ha] at this; exact this)
    rw [HC.out.al] at h11
    go_wp2_with (go_at_call 11; refine h11.mono ?_; rintro e w4 ⟨qg2, rfl, r1, hf4⟩; refine Hid.out ?_)
    refine Lib.hid ?_
    clear h11
    have Hf4 := Lib.hid (Hf3.out.trans hf4 (fun _ h => Or.inl h))
    have h18 := instancesReply rev ta qg2 k w4 (htab.fr Hf4.out (fun h => h)) hrev HC.out.na r1 HC.out.ia (by rw [HC.out.et]; have := HC.out.ltb; omega)
    rw [HC.out.et, HC.out.al] at h18
    have Yw4 := Lib.hid (Yw3.out.fr hf4)
    clear r1 hf4 Hf3 Yw3
    go_wp2_with (go_at_call 10; refine h18.mono ?_; rintro e w5 ⟨rv, rfl, hown, hf5⟩; refine Hid.out ?_)
    refine Lib.hid ?_
    clear h18
    obtain ⟨gt, ct, rfl, hyt, hct⟩ := owns_bytes2 hown HC.out.lt0
    have Yt5 := Lib.hid hyt
    have Yw5 := Lib.hid (Yw4.out.fr hf5)
    have Hf5 := Lib.hid (Hf4.out.trans hf5 (fun _ h => Or.inl h))
    have Hct := Lib.hid hct
    clear hown hyt hf5 Hf4 Yw4 hct
    have h11 := toList rev tb qb cb w5 HC.out.nb (HqB.out.fr Hf5.out)
    go_wp2_with (go_at_call 11; refine h11.mono ?_; rintro e w6 ⟨qg3, rfl, r1, hf6⟩; refine Hid.out ?_)
    refine Lib.hid ?_
    clear h11
    have Hf6 := Lib.hid (Hf5.out.trans hf6 (fun _ h => Or.inl h))
    have h18 := instancesReply rev tb qg3 tb.length w6 (htab.fr Hf6.out (fun h => h)) hrev HC.out.nb r1 HC.out.ib (by rw [HC.out.eu]; have := HC.out.lub; omega)
    rw [HC.out.eu] at h18
    have Yw6 := Lib.hid (Yw5.out.fr hf6)
    have Yt6 := Lib.hid (Yt5.out.fr hf6)
    clear r1 hf6 Hf5 Yw5 Yt5
    go_wp2_with (go_at_call 10; refine h18.mono ?_; rintro e w7 ⟨rv, rfl, hown, hf7⟩; refine Hid.out ?_)
    refine Lib.hid ?_
    clear h18
    obtain ⟨gu, cu, rfl, hyu, hcu⟩ := owns_bytes2 hown HC.out.lu0
    have Yu7 := Lib.hid hyu
    have Yw7 := Lib.hid (Yw6.out.fr hf7)
    have Yt7 := Lib.hid (Yt6.out.fr hf7)
    have Hf7 := Lib.hid (Hf6.out.trans hf7 (fun _ h => Or.inl h))
    have Hcu := Lib.hid hcu
    clear hown hyu hf7 Hf6 Yw6 Yt6 hcu
    have h12 : Calls Tryd.prog 12 #[.slice (some ⟨gw, 0, none⟩) lw.length cw, .int .i64 0, .int .u8 42] w7 fun e w' => e = .returned (.tuple #[.int .i64 2, .int .i64 4, .bool true]) ∧ w' = w7 := by
      have h := readNum_ok gw cw lw [] (encList rev ns) 42 42 2 w7 (by rw [← HC.out.ew]; rfl) rfl ⟨by decide, by decide⟩ Yw7.out (by have := HC.out.lwb; omega)
      rw [num_two] at h
      exact h
    go_wp2_with (go_at_call 12; refine h12.mono ?_; rintro e w7x ⟨rfl, rfl⟩; refine Hid.out ?_)
    refine Lib.hid ?_
    clear h12
    have h13 := matchList gw cw lw (num 42 2) [] rev ns qa qc w7x (by rw [← HC.out.ew, List.append_nil]; rfl) (by have := HC.out.lwb; omega) Yw7.out hrev hql1 (Hq.out.fr Hf7.out) Hqi.out 4 (by rw [num_two]; rfl)
    rw [show num 42 2 ++ encList rev ns = lw from HC.out.ew] at h13
    go_wp2_with (go_at_call 13; refine h13.mono ?_; rintro e w7y ⟨rfl, hf7y⟩; refine Hid.out ?_)
    refine Lib.hid ?_
    clear h13
    have Zu7 := Lib.hid (Yu7.out.fr hf7y)
    have Zw7 := Lib.hid (Yw7.out.fr hf7y)
    have Zt7 := Lib.hid (Yt7.out.fr hf7y)
    have Gf7 := Lib.hid (Hf7.out.trans hf7y (fun _ h => Or.inl h))
    clear hf7y Yu7 Yw7 Yt7 Hf7
    have h20 := replyHeaderR rev (k : Int) hrev ⟨by omega, by omega⟩ w7y
    go_wp2_with (go_at_call 15; refine h20.mono ?_; rintro e w8 ⟨v1, rfl, hown, hv1, hf8⟩; refine Hid.out ?_)
    refine Lib.hid ?_
    clear h20
    obtain ⟨g1, c1, rfl, hy1, -⟩ := owns_bytes2 hown (rhead_pos rev (k : Int))
    have h14 := dropPrefix gt ct g1 c1 lt (rhead rev (k : Int)) rt w8 HC.out.pt (Zt7.out.fr hf8) hy1 Hct.out (by have := HC.out.ltb; omega)
    have Yu8 := Lib.hid (Zu7.out.fr hf8)
    have Yw8 := Lib.hid (Zw7.out.fr hf8)
    have Hf8 := Lib.hid (Gf7.out.trans hf8 (fun _ h => Or.inl h))
    clear hown hv1 hf8 hy1 Zu7 Zw7 Zt7 Gf7 Hct
    generalize (rhead rev (k : Int)).length = hl1 at h14
    go_wp2_with (go_at_call 14; refine h14.mono ?_; rintro e w9 ⟨ad1, e1, rfl, hn1, hf9⟩; refine Hid.out ?_)
    refine Lib.hid ?_
    clear h14
    have Hn9 := Lib.hid hn1
    have Yu9 := Lib.hid (Yu8.out.fr hf9)
    have Yw9 := Lib.hid (Yw8.out.fr hf9)
    have Hf9 := Lib.hid (Hf8.out.trans hf9 (fun _ h => Or.inl h))
    clear hn1 hf9 Yu8 Yw8 Hf8
    have h20 := replyHeaderR rev ((ns.length : Int) - (k : Int)) hrev ⟨by omega, by omega⟩ w9
    go_wp2_with (go_at_call 15; refine h20.mono ?_; rintro e w10 ⟨v1, rfl, hown, hv1, hf10⟩; refine Hid.out ?_)
    refine Lib.hid ?_
    clear h20
    obtain ⟨g2, c2, rfl, hy2, -⟩ := owns_bytes2 hown (rhead_pos rev ((ns.length : Int) - (k : Int)))
    have h14 := dropPrefix gu cu g2 c2 lu (rhead rev ((ns.length : Int) - (k : Int))) ru w10 HC.out.pu (Yu9.out.fr hf10) hy2 Hcu.out (by have := HC.out.lub; omega)
    have Hn10 : Hid (∀ j u, (Lib.byteCells rt)[j]? = some u → w10.cell? (ad1.add j) = some u) := Lib.hid fun j u hj => hf10.cell (Hn9.out j u hj) (fun h => h)
    have Yw10 := Lib.hid (Yw9.out.fr hf10)
    have Hf10 := Lib.hid (Hf9.out.trans hf10 (fun _ h => Or.inl h))
    clear hown hv1 hf10 hy2 Yu9 Yw9 Hf9 Hn9 Hcu
    generalize (rhead rev ((ns.length : Int) - (k : Int))).length = hl2 at h14
    go_wp2_with (go_at_call 14; refine h14.mono ?_; rintro e w11 ⟨ad2, e2, rfl, hn2, hf11⟩; refine Hid.out ?_)
    refine Lib.hid ?_
    clear h14
    have Hm11 := Lib.hid hn2
    have Hn11 : Hid (∀ j u, (Lib.byteCells rt)[j]? = some u → w11.cell? (ad1.add j) = some u) := Lib.hid fun j u hj => hf11.cell (Hn10.out j u hj) (fun h => h)
    have Yw11 := Lib.hid (Yw10.out.fr hf11)
    have Hf11 := Lib.hid (Hf10.out.trans hf11 (fun _ h => Or.inl h))
    clear hn2 hf11 Yw10 Hf10 Hn10
    have h20 := replyHeaderR rev (ns.length : Int) hrev ⟨by omega, by omega⟩ w11
    go_wp2_with (go_at_call 15; refine h20.mono ?_; rintro e w12 ⟨v3, rfl, hown, hv3, hf12⟩; refine Hid.out ?_)
    refine Lib.hid ?_
    clear h20
    have Hm12 : Hid (∀ j u, (Lib.byteCells ru)[j]? = some u → w12.cell? (ad2.add j) = some u) := Lib.hid fun j u hj => hf12.cell (Hm11.out j u hj) (fun h => h)
    have Hn12 : Hid (∀ j u, (Lib.byteCells rt)[j]? = some u → w12.cell? (ad1.add j) = some u) := Lib.hid fun j u hj => hf12.cell (Hn11.out j u hj) (fun h => h)
    have Yw12 := Lib.hid (Yw11.out.fr hf12)
    have Hf12 := Lib.hid (Hf11.out.trans hf12 (fun _ h => Or.inl h))
    have Hv3 := Lib.hid hv3
    have HsX := Lib.hid hf12.size
    have Hown := Lib.hid hown
    have Hlt12 : Hid (∀ (p : Addr) (u : Value), w11.cell? p = some u → some p.block ≠ v3.ownBlock) := Lib.hid fun p u hp e => by
      have h1 := World.block_lt_of_cell? w11 p hp
      have h2 := hv3 _ e.symm
      omega
    have hlr1 : rt.length ≤ 132120628 := by have := HC.out.ltb; rw [HC.out.pt, List.length_append] at this; omega
    have hlr2 : ru.length ≤ 132120628 := by have := HC.out.lub; rw [HC.out.pu, List.length_append] at this; omega
    have hhl := rhead_len rev (ns.length : Int) hrev ⟨by omega, by omega⟩
    have hbr1 : (Lib.byteCells rt).length = rt.length := Lib.byteCells_length _
    have hbr2 : (Lib.byteCells ru).length = ru.length := Lib.byteCells_length _
    clear hown hv3 hf12
    go_wp2_with (at_builtin; refine wpList_append_x rfl _ _ rfl _ _ _ rfl Hown.out ad1 rt.length e1 (Lib.byteCells rt) rfl hbr1 Hn12.out (Lib.byteCells_one _) (by omega) ?_)
    intro v4 w13 hown4 hg4 hnew4
    have Hm13 : Hid (∀ j u, (Lib.byteCells ru)[j]? = some u → w13.cell? (ad2.add j) = some u) := Lib.hid fun j u hj => (Fr.grown hg4).cell (Hm12.out j u hj) (fun e => Hlt12.out _ u (Hm11.out j u hj) e)
    have Yw13 : Hid (BytesAt gw lw w13) := Lib.hid fun j b hj => (Fr.grown hg4).cell (Yw12.out j b hj) (fun e => Hlt12.out _ _ (Yw11.out j b hj) e)
    have Hf13 : Hid (Fr (fun _ => False) w1 w13) := Lib.hid (Hf12.out.newRow (Fr.grown hg4) (fun k hk => Nat.le_trans Hf11.out.size (Hv3.out k hk)))
    have Hv4 : Hid (∀ k, v4.ownBlock = some k → w11.heap.size ≤ k) := Lib.hid (hnew4.from Hv3.out (by exact HsX.out))
    have Hown4 := Lib.hid hown4
    clear hown4 hg4 hnew4 Hn12 Hm12 Yw12 Hf12 Hown
    go_wp2_with (at_builtin; refine wpList_append_x rfl _ _ rfl _ _ _ rfl Hown4.out ad2 ru.length e2 (Lib.byteCells ru) rfl hbr2 Hm13.out (Lib.byteCells_one _) (by omega) ?_)
    intro v5 w14 hown5 hg5 hnew5
    have Yw14 : BytesAt gw lw w14 := fun j b hj => (Fr.grown hg5).cell (Yw13.out j b hj) (fun e => by
      have h1 := World.block_lt_of_cell? w11 _ (Yw11.out j b hj)
      have h2 := Hv4.out _ e.symm
      simp only at h1 h2
      omega)
    have Hf14 : Hid (Fr (fun _ => False) w1 w14) := Lib.hid (Hf13.out.newRow (Fr.grown hg5) (fun k hk => Nat.le_trans Hf11.out.size (Hv4.out k hk)))
    have hpw := HC.out.pw
    have hcells : Lib.byteCells (rhead rev (ns.length : Int)) ++ (Lib.byteCells rt ++ Lib.byteCells ru) = Lib.byteCells lw := by rw [hpw, Lib.byteCells_append, Lib.byteCells_append]
    have hsz : (rhead rev (ns.length : Int)).length + rt.length + ru.length = lw.length := by rw [hpw, List.length_append, List.length_append]; omega
    rw [hcells, hsz] at hown5
    obtain ⟨g5, c5, rfl, hy5⟩ := owns_bytes hown5 HC.out.lw0
    have h16 := sameBytes gw cw g5 c5 lw w14 Yw14 hy5 (by have := HC.out.lwb; omega)
    clear hown5 hg5 hnew5 Yw14 hpw hcells hsz hy5 Hm13 Yw13 Hf13 Hv4 Hown4
    go_wp2_with (go_at_call 16; refine h16.mono ?_; rintro e w15 ⟨rfl, n, rfl⟩; refine Hid.out ?_)
    refine Lib.hid ?_
    clear h16
    go_wp2
    go_ret
    exact ⟨rfl, Hf14.out.drewN n⟩
end Go.Proofs.Qxb6614442aDoor
