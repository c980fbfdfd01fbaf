import Derived.Test.Qxb6614442aDoorHd
namespace Go.Proofs.Qxb6614442aDoor
open Go.RowKit

theorem size22 (W : World) : (sizeOf (Tryd.prog.elem 22)).run Tryd.prog W = .ok 4 W := by kernel_rfl

theorem cut_h (qa : Option Addr) (len cap n : Nat) (h1 : n ≤ cap) (W : World) : (Instr.slice 22 (.slice qa len cap) none (some (.int .i64 (n : Int))) none).run Tryd.prog W = .ok (.slice qa n cap) W := by
  rw [run_slice_h W 22 _ _ _ (by kernel_rfl) .i64 (n : Int) (by omega) (by omega), size22]
  cases qa with
  | none => simp [sliced]
  | some a => simp [sliced, Addr.add]

theorem cut_l (ns : List Nd) (qa : Option Addr) (cap k : Nat) (w : World) (hk : k ≤ ns.length) (hc : ns.length ≤ cap) (hq : ARows qa 4 (ns.map Nd.cells) w) :
    ∃ qb cb, (∀ W : World, (Instr.slice 22 (.slice qa ns.length cap) (some (.int .i64 (k : Int))) none none).run Tryd.prog W = .ok (.slice qb (ns.drop k).length cb) W) ∧ ARows qb 4 ((ns.drop k).map Nd.cells) w := by
  have hr : ∀ W : World, (Instr.slice 22 (.slice qa ns.length cap) (some (.int .i64 (k : Int))) none none).run Tryd.prog W = .ok (sliced qa k ns.length cap 4) W := fun W => by
    rw [run_slice_l W 22 _ _ _ (by kernel_rfl) .i64 (k : Int) (by omega) (by omega), size22]
    simp
  by_cases hd : ns.drop k = []
  · obtain ⟨qb, cb, hqb⟩ : ∃ qb cb, sliced qa k ns.length cap 4 = .slice qb (ns.length - k) cb := ⟨_, _, rfl⟩
    exact ⟨qb, cb, fun W => by rw [hr W, hqb, List.length_drop], Or.inl (by rw [hd]; rfl)⟩
  · have hlt : k < ns.length := by
      rcases Nat.lt_or_ge k ns.length with h | h
      · exact h
      · exact absurd (List.drop_eq_nil_of_le h) hd
    rcases hq with he | ⟨b, o, rfl, hb, hcells⟩
    · have : ns = [] := by simpa using he
      subst this; simp at hlt
    · refine ⟨some ⟨b, o + k * 4, none⟩, cap - k, fun W => ?_, Or.inr ⟨b, o + k * 4, rfl, hb, fun i r hi j x hj => ?_⟩⟩
      · rw [hr W]
        have hne : ¬ cap = k := by omega
        simp [sliced, hne, Lib.addr_add]
      · have := hcells (k + i) r (by rw [List.map_drop, List.getElem?_drop] at hi; exact hi) j x hj
        rw [show o + k * 4 + i * 4 + j = o + (k + i) * 4 + j by omega]
        exact this

theorem ARows.take {qa : Option Addr} {ns : List Nd} {w : World} (h : ARows qa 4 (ns.map Nd.cells) w) (k : Nat) : ARows qa 4 ((ns.take k).map Nd.cells) w := by
  rcases h with he | ⟨b, o, rfl, hb, hc⟩
  · have : ns = [] := by simpa using he
    subst this; exact Or.inl (by simp)
  · refine Or.inr ⟨b, o, rfl, hb, fun i r hi => hc i r ?_⟩
    rw [List.map_take, List.getElem?_take] at hi
    split at hi
    · exact hi
    · cases hi

theorem sumBy_split {α : Type} (f : α → Nat) (l : List α) (k : Nat) : sumBy f (l.take k) + sumBy f (l.drop k) = sumBy f l := by
  unfold sumBy
  rw [← List.sum_append, ← List.map_append, List.take_append_drop]

theorem listCost_take (ns : List Nd) (k : Nat) (h : listCost ns ≤ 1048576) : listCost (ns.take k) ≤ 1048576 := by
  have := sumBy_split Nd.cost ns k
  unfold listCost at *
  rw [List.length_take]
  omega
theorem listCost_drop (ns : List Nd) (k : Nat) (h : listCost ns ≤ 1048576) : listCost (ns.drop k) ≤ 1048576 := by
  have := sumBy_split Nd.cost ns k
  unfold listCost at *
  rw [List.length_drop]
  omega

/-- The plain law: a list's bytes, cut in two. -/
structure Cut (rev : Int) (ns : List Nd) (k : Nat) (ta tb : List Nd) (lw lt lu rt ru : List UInt8) : Prop where
  ha : ta = ns.take k
  hb : tb = ns.drop k
  al : ta.length = k
  bl : (tb.length : Int) = (ns.length : Int) - (k : Int)
  ew : encList rev ns = lw
  et : encList rev ta = lt
  eu : encList rev tb = lu
  pt : lt = head rev (k : Int) ++ rt
  pu : lu = head rev ((ns.length : Int) - (k : Int)) ++ ru
  pw : lw = head rev (ns.length : Int) ++ (rt ++ ru)
  lw0 : 0 < lw.length
  lt0 : 0 < lt.length
  lu0 : 0 < lu.length
  lwb : lw.length ≤ 132120624
  ltb : lt.length ≤ 132120624
  lub : lu.length ≤ 132120624
  ia : ∀ q ∈ ta, i64 q.weight
  ib : ∀ q ∈ tb, i64 q.weight
  na : ta.length ≤ 1048576
  nb : tb.length ≤ 1048576

theorem cut_of (rev : Int) (ns : List Nd) (k : Nat) (hrev : i64 rev) (hi : ∀ q ∈ ns, i64 q.weight) (hc : listCost ns ≤ 1048576) (hk : k ≤ ns.length) : ∃ ta tb lw lt lu rt ru, Cut rev ns k ta tb lw lt lu rt ru := by
  have hia : ∀ q ∈ ns.take k, i64 q.weight := fun q hq => hi q (List.mem_of_mem_take hq)
  have hib : ∀ q ∈ ns.drop k, i64 q.weight := fun q hq => hi q (List.mem_of_mem_drop hq)
  have hal : (ns.take k).length = k := by rw [List.length_take]; omega
  have hbl : ((ns.drop k).length : Int) = (ns.length : Int) - (k : Int) := by rw [List.length_drop]; omega
  have hnl : ns.length ≤ 1048576 := by unfold listCost at hc; omega
  refine ⟨ns.take k, ns.drop k, encList rev ns, encList rev (ns.take k), encList rev (ns.drop k), encAll Nd.enc (ns.take k), encAll Nd.enc (ns.drop k), ⟨rfl, rfl, hal, hbl, rfl, rfl, rfl, ?_, ?_, ?_, by simp [encList, num], by simp [encList, num], by simp [encList, num], encList_len _ _ hrev hi hc, encList_len _ _ hrev hia (listCost_take ns k hc), encList_len _ _ hrev hib (listCost_drop ns k hc), hia, hib, by omega, by rw [List.length_drop]; omega⟩⟩
  · unfold encList head; rw [hal]
  · unfold encList head; rw [hbl]
  · unfold encList head
    have : encAll Nd.enc (ns.take k) ++ encAll Nd.enc (ns.drop k) = encAll Nd.enc ns := by unfold encAll; rw [← List.flatMap_append, List.take_append_drop]
    rw [this]

theorem head_len (rev n : Int) (h1 : i64 rev) (h2 : i64 n) : (head rev n).length ≤ 48 := by
  have l1 := num_length 58 rev h1.1 h1.2
  have l2 := num_length 42 n h2.1 h2.2
  simp only [head, List.length_append]; omega
theorem head_pos (rev n : Int) : 0 < (head rev n).length := by simp [head, num]

set_option maxHeartbeats 16000000 in
set_option maxRecDepth 20000 in
theorem law5 (rev kk pp qq : Int) (ns : List Nd) (qa : Option Addr) (qc : Nat) (hcap : ns.length ≤ qc) (w : World) (htab : Tab w) (hrev : i64 rev) (hql : ns.length ≤ 9223372036854775807) (hq : ARows qa 4 (ns.map Nd.cells) w)
    (hqi : ∀ q ∈ ns, i64 q.weight) (hqs : ∀ q ∈ ns, q.name.size ≤ 9223372036854775807 ∧ q.addr.size ≤ 9223372036854775807 ∧ q.note.size ≤ 9223372036854775807) :
    Calls Tryd.prog 5 #[.int .i64 rev, .slice qa ns.length qc, .int .i64 kk, .int .i64 pp, .int .i64 qq] w (TrueSaid w) := by
  have h21 := zzBytes19 rev kk pp qq ns qa qc w hql hq hqs
  have Hq := Lib.hid hq
  have Hqi := Lib.hid hqi
  clear hq hqi hqs
  go_enter Tryd.func5, Tryd.ntmps5
  go_wp2_with (go_at_call 19; refine h21.mono ?_; rintro e w' ⟨b, rfl, rfl, hcost⟩; refine Hid.out ?_)
  refine Lib.hid ?_
  clear h21
  cases b
  · go_wp2
    go_ret
    exact ⟨rfl, Fr.refl _ _⟩
  have hcost := hcost rfl
  have Hcost := Lib.hid hcost
  clear hcost
  obtain ⟨hql1, hsz1⟩ := cost_of ns Hcost.out
  have h22 := instsTooBig ns qa qc w' hql1 Hq.out hsz1
  clear hsz1
  go_wp2_with (go_at_call 9; refine h22.mono ?_; rintro e w1 ⟨b, rfl, rfl, -⟩; refine Hid.out ?_)
  refine Lib.hid ?_
  clear h22
  cases b
  rotate_left
  · go_wp2
    go_ret
    exact ⟨rfl, Fr.refl _ _⟩
  by_cases hk0 : kk < 0
  · go_wp2
    go_ret
    exact ⟨rfl, Fr.refl _ _⟩
  by_cases hk1 : (ns.length : Int) < kk
  · have hk0' : 0 ≤ kk := by omega
    go_wp2
    go_ret
    exact ⟨rfl, Fr.refl _ _⟩
  obtain ⟨k, rfl⟩ : ∃ k : Nat, kk = (k : Int) := ⟨kk.toNat, by omega⟩
  have hkn : k ≤ ns.length := by omega
  have hki : (k : Int) ≤ (ns.length : Int) := by omega
  have hki0 : (0 : Int) ≤ (k : Int) := by omega
  clear hk0 hk1
  by_cases hp2 : ¬ (pp = 2 ∨ pp = 3)
  · have b2 : (pp != 2) = true := by simp; intro h; exact hp2 (Or.inl h)
    have b3 : (pp != 3) = true := by simp; intro h; exact hp2 (Or.inr h)
    go_wp2
    go_ret
    exact ⟨rfl, Fr.refl _ _⟩
  by_cases hq2 : ¬ (qq = 2 ∨ qq = 3)
  · have b2 : (qq != 2) = true := by simp; intro h; exact hq2 (Or.inl h)
    have b3 : (qq != 3) = true := by simp; intro h; exact hq2 (Or.inr h)
    rcases Classical.not_not.1 hp2 with rfl | rfl
    · go_wp2
      go_ret
      exact ⟨rfl, Fr.refl _ _⟩
    · go_wp2
      go_ret
      exact ⟨rfl, Fr.refl _ _⟩
  have hp2 := Classical.not_not.1 hp2
  have hq2 := Classical.not_not.1 hq2
  obtain ⟨ta, tb, lw, lt, lu, rt, ru, hC⟩ := cut_of rev ns k hrev Hqi.out Hcost.out hkn
  have HC := Lib.hid hC
  have hsh := fun W => cut_h qa ns.length qc k (by omega) W
  obtain ⟨qb, cb, hsl, hqB⟩ := cut_l ns qa qc k w1 hkn hcap Hq.out
  rw [← hC.hb] at hsl hqB
  have HqB := Lib.hid hqB
  clear hC hqB
  rcases hp2 with rfl | rfl
  · rcases hq2 with rfl | rfl
    · skip
      have h11 := toList rev ns qa qc w1 hql1 Hq.out
      go_wp2_with (go_at_call 11; refine h11.mono ?_; rintro e w2 ⟨qg, rfl, r1, hf2⟩; refine Hid.out ?_)
      refine Lib.hid ?_
      clear h11
      have h18 := zzList rev 2 ns qg ns.length w2 (htab.fr hf2 (fun h => h)) hrev hql1 r1 Hqi.out (by rw [HC.out.ew]; have := HC.out.lwb; omega)
      rw [HC.out.ew] at h18
      have Hf2 := Lib.hid hf2
      clear r1 hf2
      go_wp2_with (go_at_call 18; refine h18.mono ?_; rintro e w3 ⟨rv, rfl, hown, hf3⟩; refine Hid.out ?_)
      refine Lib.hid ?_
      clear h18
      obtain ⟨gw, cw, rfl, hyw, -⟩ := owns_bytes2 hown HC.out.lw0
      have Yw3 := Lib.hid hyw
      have Hf3 := Lib.hid (Hf2.out.trans hf3 (fun _ h => Or.inl h))
      clear hown hyw hf3 Hf2
      have h11 := toList rev ta qa qc w3 HC.out.na (by have := (Hq.out.take k).fr Hf3.out; rw [← HC.out.ha] at this; exact this)
      rw [HC.out.al] at h11
      go_wp2_with (go_at_call 11; refine h11.mono ?_; rintro e w4 ⟨qg2, rfl, r1, hf4⟩; refine Hid.out ?_)
      refine Lib.hid ?_
      clear h11
      have Hf4 := Lib.hid (Hf3.out.trans hf4 (fun _ h => Or.inl h))
      have h18 := zzList rev 2 ta qg2 k w4 (htab.fr Hf4.out (fun h => h)) hrev HC.out.na r1 HC.out.ia (by rw [HC.out.et]; have := HC.out.ltb; omega)
      rw [HC.out.et, HC.out.al] at h18
      have Yw4 := Lib.hid (Yw3.out.fr hf4)
      clear r1 hf4 Hf3 Yw3
      go_wp2_with (go_at_call 18; refine h18.mono ?_; rintro e w5 ⟨rv, rfl, hown, hf5⟩; refine Hid.out ?_)
      refine Lib.hid ?_
      clear h18
      obtain ⟨gt, ct, rfl, hyt, hct⟩ := owns_bytes2 hown HC.out.lt0
      have Yt5 := Lib.hid hyt
      have Yw5 := Lib.hid (Yw4.out.fr hf5)
      have Hf5 := Lib.hid (Hf4.out.trans hf5 (fun _ h => Or.inl h))
      have Hct := Lib.hid hct
      clear hown hyt hf5 Hf4 Yw4 hct
      have h11 := toList rev tb qb cb w5 HC.out.nb (HqB.out.fr Hf5.out)
      go_wp2_with (go_at_call 11; refine h11.mono ?_; rintro e w6 ⟨qg3, rfl, r1, hf6⟩; refine Hid.out ?_)
      refine Lib.hid ?_
      clear h11
      have Hf6 := Lib.hid (Hf5.out.trans hf6 (fun _ h => Or.inl h))
      have h18 := zzList rev 2 tb qg3 tb.length w6 (htab.fr Hf6.out (fun h => h)) hrev HC.out.nb r1 HC.out.ib (by rw [HC.out.eu]; have := HC.out.lub; omega)
      rw [HC.out.eu] at h18
      have Yw6 := Lib.hid (Yw5.out.fr hf6)
      have Yt6 := Lib.hid (Yt5.out.fr hf6)
      clear r1 hf6 Hf5 Yw5 Yt5
      go_wp2_with (go_at_call 18; refine h18.mono ?_; rintro e w7 ⟨rv, rfl, hown, hf7⟩; refine Hid.out ?_)
      refine Lib.hid ?_
      clear h18
      obtain ⟨gu, cu, rfl, hyu, hcu⟩ := owns_bytes2 hown HC.out.lu0
      have Yu7 := Lib.hid hyu
      have Yw7 := Lib.hid (Yw6.out.fr hf7)
      have Yt7 := Lib.hid (Yt6.out.fr hf7)
      have Hf7 := Lib.hid (Hf6.out.trans hf7 (fun _ h => Or.inl h))
      have Hcu := Lib.hid hcu
      clear hown hyu hf7 Hf6 Yw6 Yt6 hcu
      have h20 := listHeader rev (k : Int) hrev ⟨by omega, by omega⟩ w7
      go_wp2_with (go_at_call 20; refine h20.mono ?_; rintro e w8 ⟨v1, rfl, hown, hv1, hf8⟩; refine Hid.out ?_)
      refine Lib.hid ?_
      clear h20
      obtain ⟨g1, c1, rfl, hy1, -⟩ := owns_bytes2 hown (head_pos rev (k : Int))
      have h14 := dropPrefix gt ct g1 c1 lt (head rev (k : Int)) rt w8 HC.out.pt (Yt7.out.fr hf8) hy1 Hct.out (by have := HC.out.ltb; omega)
      have Yu8 := Lib.hid (Yu7.out.fr hf8)
      have Yw8 := Lib.hid (Yw7.out.fr hf8)
      have Hf8 := Lib.hid (Hf7.out.trans hf8 (fun _ h => Or.inl h))
      clear hown hv1 hf8 hy1 Yu7 Yw7 Yt7 Hf7 Hct
      generalize (head rev (k : Int)).length = hl1 at h14
      go_wp2_with (go_at_call 14; refine h14.mono ?_; rintro e w9 ⟨ad1, e1, rfl, hn1, hf9⟩; refine Hid.out ?_)
      refine Lib.hid ?_
      clear h14
      have Hn9 := Lib.hid hn1
      have Yu9 := Lib.hid (Yu8.out.fr hf9)
      have Yw9 := Lib.hid (Yw8.out.fr hf9)
      have Hf9 := Lib.hid (Hf8.out.trans hf9 (fun _ h => Or.inl h))
      clear hn1 hf9 Yu8 Yw8 Hf8
      have h20 := listHeader rev ((ns.length : Int) - (k : Int)) hrev ⟨by omega, by omega⟩ w9
      go_wp2_with (go_at_call 20; refine h20.mono ?_; rintro e w10 ⟨v1, rfl, hown, hv1, hf10⟩; refine Hid.out ?_)
      refine Lib.hid ?_
      clear h20
      obtain ⟨g2, c2, rfl, hy2, -⟩ := owns_bytes2 hown (head_pos rev ((ns.length : Int) - (k : Int)))
      have h14 := dropPrefix gu cu g2 c2 lu (head rev ((ns.length : Int) - (k : Int))) ru w10 HC.out.pu (Yu9.out.fr hf10) hy2 Hcu.out (by have := HC.out.lub; omega)
      have Hn10 : Hid (∀ j u, (Lib.byteCells rt)[j]? = some u → w10.cell? (ad1.add j) = some u) := Lib.hid fun j u hj => hf10.cell (Hn9.out j u hj) (fun h => h)
      have Yw10 := Lib.hid (Yw9.out.fr hf10)
      have Hf10 := Lib.hid (Hf9.out.trans hf10 (fun _ h => Or.inl h))
      clear hown hv1 hf10 hy2 Yu9 Yw9 Hf9 Hn9 Hcu
      generalize (head rev ((ns.length : Int) - (k : Int))).length = hl2 at h14
      go_wp2_with (go_at_call 14; refine h14.mono ?_; rintro e w11 ⟨ad2, e2, rfl, hn2, hf11⟩; refine Hid.out ?_)
      refine Lib.hid ?_
      clear h14
      have Hm11 := Lib.hid hn2
      have Hn11 : Hid (∀ j u, (Lib.byteCells rt)[j]? = some u → w11.cell? (ad1.add j) = some u) := Lib.hid fun j u hj => hf11.cell (Hn10.out j u hj) (fun h => h)
      have Yw11 := Lib.hid (Yw10.out.fr hf11)
      have Hf11 := Lib.hid (Hf10.out.trans hf11 (fun _ h => Or.inl h))
      clear hn2 hf11 Yw10 Hf10 Hn10
      have h20 := listHeader rev (ns.length : Int) hrev ⟨by omega, by omega⟩ w11
      go_wp2_with (go_at_call 20; refine h20.mono ?_; rintro e w12 ⟨v3, rfl, hown, hv3, hf12⟩; refine Hid.out ?_)
      refine Lib.hid ?_
      clear h20
      have Hm12 : Hid (∀ j u, (Lib.byteCells ru)[j]? = some u → w12.cell? (ad2.add j) = some u) := Lib.hid fun j u hj => hf12.cell (Hm11.out j u hj) (fun h => h)
      have Hn12 : Hid (∀ j u, (Lib.byteCells rt)[j]? = some u → w12.cell? (ad1.add j) = some u) := Lib.hid fun j u hj => hf12.cell (Hn11.out j u hj) (fun h => h)
      have Yw12 := Lib.hid (Yw11.out.fr hf12)
      have Hf12 := Lib.hid (Hf11.out.trans hf12 (fun _ h => Or.inl h))
      have Hv3 := Lib.hid hv3
      have HsX := Lib.hid hf12.size
      have Hown := Lib.hid hown
      have Hlt12 : Hid (∀ (p : Addr) (u : Value), w11.cell? p = some u → some p.block ≠ v3.ownBlock) := Lib.hid fun p u hp e => by
        have h1 := World.block_lt_of_cell? w11 p hp
        have h2 := hv3 _ e.symm
        omega
      have hlr1 : rt.length ≤ 132120624 := by have := HC.out.ltb; rw [HC.out.pt, List.length_append] at this; omega
      have hlr2 : ru.length ≤ 132120624 := by have := HC.out.lub; rw [HC.out.pu, List.length_append] at this; omega
      have hhl := head_len rev (ns.length : Int) hrev ⟨by omega, by omega⟩
      have hbr1 : (Lib.byteCells rt).length = rt.length := Lib.byteCells_length _
      have hbr2 : (Lib.byteCells ru).length = ru.length := Lib.byteCells_length _
      clear hown hv3 hf12
      go_wp2_with (at_builtin; refine wpList_append_x rfl _ _ rfl _ _ _ rfl Hown.out ad1 rt.length e1 (Lib.byteCells rt) rfl hbr1 Hn12.out (Lib.byteCells_one _) (by omega) ?_)
      intro v4 w13 hown4 hg4 hnew4
      have Hm13 : Hid (∀ j u, (Lib.byteCells ru)[j]? = some u → w13.cell? (ad2.add j) = some u) := Lib.hid fun j u hj => (Fr.grown hg4).cell (Hm12.out j u hj) (fun e => Hlt12.out _ u (Hm11.out j u hj) e)
      have Yw13 : Hid (BytesAt gw lw w13) := Lib.hid fun j b hj => (Fr.grown hg4).cell (Yw12.out j b hj) (fun e => Hlt12.out _ _ (Yw11.out j b hj) e)
      have Hf13 : Hid (Fr (fun _ => False) w1 w13) := Lib.hid (Hf12.out.newRow (Fr.grown hg4) (fun k hk => Nat.le_trans Hf11.out.size (Hv3.out k hk)))
      have Hv4 : Hid (∀ k, v4.ownBlock = some k → w11.heap.size ≤ k) := Lib.hid (hnew4.from Hv3.out (by exact HsX.out))
      have Hown4 := Lib.hid hown4
      clear hown4 hg4 hnew4 Hn12 Hm12 Yw12 Hf12 Hown
      go_wp2_with (at_builtin; refine wpList_append_x rfl _ _ rfl _ _ _ rfl Hown4.out ad2 ru.length e2 (Lib.byteCells ru) rfl hbr2 Hm13.out (Lib.byteCells_one _) (by omega) ?_)
      intro v5 w14 hown5 hg5 hnew5
      have Yw14 : BytesAt gw lw w14 := fun j b hj => (Fr.grown hg5).cell (Yw13.out j b hj) (fun e => by
        have h1 := World.block_lt_of_cell? w11 _ (Yw11.out j b hj)
        have h2 := Hv4.out _ e.symm
        simp only at h1 h2
        omega)
      have Hf14 : Hid (Fr (fun _ => False) w1 w14) := Lib.hid (Hf13.out.newRow (Fr.grown hg5) (fun k hk => Nat.le_trans Hf11.out.size (Hv4.out k hk)))
      have hpw := HC.out.pw
      have hcells : Lib.byteCells (head rev (ns.length : Int)) ++ (Lib.byteCells rt ++ Lib.byteCells ru) = Lib.byteCells lw := by rw [hpw, Lib.byteCells_append, Lib.byteCells_append]
      have hsz : (head rev (ns.length : Int)).length + rt.length + ru.length = lw.length := by rw [hpw, List.length_append, List.length_append]; omega
      rw [hcells, hsz] at hown5
      obtain ⟨g5, c5, rfl, hy5⟩ := owns_bytes hown5 HC.out.lw0
      have h16 := sameBytes gw cw g5 c5 lw w14 Yw14 hy5 (by have := HC.out.lwb; omega)
      clear hown5 hg5 hnew5 Yw14 hpw hcells hsz hy5 Hm13 Yw13 Hf13 Hv4 Hown4
      go_wp2_with (go_at_call 16; refine h16.mono ?_; rintro e w15 ⟨rfl, n, rfl⟩; refine Hid.out ?_)
      refine Lib.hid ?_
      clear h16
      go_wp2
      go_ret
      exact ⟨rfl, Hf14.out.drewN n⟩
    · skip
      have h11 := toList rev ns qa qc w1 hql1 Hq.out
      go_wp2_with (go_at_call 11; refine h11.mono ?_; rintro e w2 ⟨qg, rfl, r1, hf2⟩; refine Hid.out ?_)
      refine Lib.hid ?_
      clear h11
      have h18 := zzList rev 2 ns qg ns.length w2 (htab.fr hf2 (fun h => h)) hrev hql1 r1 Hqi.out (by rw [HC.out.ew]; have := HC.out.lwb; omega)
      rw [HC.out.ew] at h18
      have Hf2 := Lib.hid hf2
      clear r1 hf2
      go_wp2_with (go_at_call 18; refine h18.mono ?_; rintro e w3 ⟨rv, rfl, hown, hf3⟩; refine Hid.out ?_)
      refine Lib.hid ?_
      clear h18
      obtain ⟨gw, cw, rfl, hyw, -⟩ := owns_bytes2 hown HC.out.lw0
      have Yw3 := Lib.hid hyw
      have Hf3 := Lib.hid (Hf2.out.trans hf3 (fun _ h => Or.inl h))
      clear hown hyw hf3 Hf2
      have h11 := toList rev ta qa qc w3 HC.out.na (by have := (Hq.out.take k).fr Hf3.out; rw [← HC.out.ha] at this; exact this)
      rw [HC.out.al] at h11
      go_wp2_with (go_at_call 11; refine h11.mono ?_; rintro e w4 ⟨qg2, rfl, r1, hf4⟩; refine Hid.out ?_)
      refine Lib.hid ?_
      clear h11
      have Hf4 := Lib.hid (Hf3.out.trans hf4 (fun _ h => Or.inl h))
      have h18 := zzList rev 3 ta qg2 k w4 (htab.fr Hf4.out (fun h => h)) hrev HC.out.na r1 HC.out.ia (by rw [HC.out.et]; have := HC.out.ltb; omega)
      rw [HC.out.et, HC.out.al] at h18
      have Yw4 := Lib.hid (Yw3.out.fr hf4)
      clear r1 hf4 Hf3 Yw3
      go_wp2_with (go_at_call 18; refine h18.mono ?_; rintro e w5 ⟨rv, rfl, hown, hf5⟩; refine Hid.out ?_)
      refine Lib.hid ?_
      clear h18
      obtain ⟨gt, ct, rfl, hyt, hct⟩ := owns_bytes2 hown HC.out.lt0
      have Yt5 := Lib.hid hyt
      have Yw5 := Lib.hid (Yw4.out.fr hf5)
      have Hf5 := Lib.hid (Hf4.out.trans hf5 (fun _ h => Or.inl h))
      have Hct := Lib.hid hct
      clear hown hyt hf5 Hf4 Yw4 hct
      have h11 := toList rev tb qb cb w5 HC.out.nb (HqB.out.fr Hf5.out)
      go_wp2_with (go_at_call 11; refine h11.mono ?_; rintro e w6 ⟨qg3, rfl, r1, hf6⟩; refine Hid.out ?_)
      refine Lib.hid ?_
      clear h11
      have Hf6 := Lib.hid (Hf5.out.trans hf6 (fun _ h => Or.inl h))
      have h18 := zzList rev 2 tb qg3 tb.length w6 (htab.fr Hf6.out (fun h => h)) hrev HC.out.nb r1 HC.out.ib (by rw [HC.out.eu]; have := HC.out.lub; omega)
      rw [HC.out.eu] at h18
      have Yw6 := Lib.hid (Yw5.out.fr hf6)
      have Yt6 := Lib.hid (Yt5.out.fr hf6)
      clear r1 hf6 Hf5 Yw5 Yt5
      go_wp2_with (go_at_call 18; refine h18.mono ?_; rintro e w7 ⟨rv, rfl, hown, hf7⟩; refine Hid.out ?_)
      refine Lib.hid ?_
      clear h18
      obtain ⟨gu, cu, rfl, hyu, hcu⟩ := owns_bytes2 hown HC.out.lu0
      have Yu7 := Lib.hid hyu
      have Yw7 := Lib.hid (Yw6.out.fr hf7)
      have Yt7 := Lib.hid (Yt6.out.fr hf7)
      have Hf7 := Lib.hid (Hf6.out.trans hf7 (fun _ h => Or.inl h))
      have Hcu := Lib.hid hcu
      clear hown hyu hf7 Hf6 Yw6 Yt6 hcu
      have h20 := listHeader rev (k : Int) hrev ⟨by omega, by omega⟩ w7
      go_wp2_with (go_at_call 20; refine h20.mono ?_; rintro e w8 ⟨v1, rfl, hown, hv1, hf8⟩; refine Hid.out ?_)
      refine Lib.hid ?_
      clear h20
      obtain ⟨g1, c1, rfl, hy1, -⟩ := owns_bytes2 hown (head_pos rev (k : Int))
      have h14 := dropPrefix gt ct g1 c1 lt (head rev (k : Int)) rt w8 HC.out.pt (Yt7.out.fr hf8) hy1 Hct.out (by have := HC.out.ltb; omega)
      have Yu8 := Lib.hid (Yu7.out.fr hf8)
      have Yw8 := Lib.hid (Yw7.out.fr hf8)
      have Hf8 := Lib.hid (Hf7.out.trans hf8 (fun _ h => Or.inl h))
      clear hown hv1 hf8 hy1 Yu7 Yw7 Yt7 Hf7 Hct
      generalize (head rev (k : Int)).length = hl1 at h14
      go_wp2_with (go_at_call 14; refine h14.mono ?_; rintro e w9 ⟨ad1, e1, rfl, hn1, hf9⟩; refine Hid.out ?_)
      refine Lib.hid ?_
      clear h14
      have Hn9 := Lib.hid hn1
      have Yu9 := Lib.hid (Yu8.out.fr hf9)
      have Yw9 := Lib.hid (Yw8.out.fr hf9)
      have Hf9 := Lib.hid (Hf8.out.trans hf9 (fun _ h => Or.inl h))
      clear hn1 hf9 Yu8 Yw8 Hf8
      have h20 := listHeader rev ((ns.length : Int) - (k : Int)) hrev ⟨by omega, by omega⟩ w9
      go_wp2_with (go_at_call 20; refine h20.mono ?_; rintro e w10 ⟨v1, rfl, hown, hv1, hf10⟩; refine Hid.out ?_)
      refine Lib.hid ?_
      clear h20
      obtain ⟨g2, c2, rfl, hy2, -⟩ := owns_bytes2 hown (head_pos rev ((ns.length : Int) - (k : Int)))
      have h14 := dropPrefix gu cu g2 c2 lu (head rev ((ns.length : Int) - (k : Int))) ru w10 HC.out.pu (Yu9.out.fr hf10) hy2 Hcu.out (by have := HC.out.lub; omega)
      have Hn10 : Hid (∀ j u, (Lib.byteCells rt)[j]? = some u → w10.cell? (ad1.add j) = some u) := Lib.hid fun j u hj => hf10.cell (Hn9.out j u hj) (fun h => h)
      have Yw10 := Lib.hid (Yw9.out.fr hf10)
      have Hf10 := Lib.hid (Hf9.out.trans hf10 (fun _ h => Or.inl h))
      clear hown hv1 hf10 hy2 Yu9 Yw9 Hf9 Hn9 Hcu
      generalize (head rev ((ns.length : Int) - (k : Int))).length = hl2 at h14
      go_wp2_with (go_at_call 14; refine h14.mono ?_; rintro e w11 ⟨ad2, e2, rfl, hn2, hf11⟩; refine Hid.out ?_)
      refine Lib.hid ?_
      clear h14
      have Hm11 := Lib.hid hn2
      have Hn11 : Hid (∀ j u, (Lib.byteCells rt)[j]? = some u → w11.cell? (ad1.add j) = some u) := Lib.hid fun j u hj => hf11.cell (Hn10.out j u hj) (fun h => h)
      have Yw11 := Lib.hid (Yw10.out.fr hf11)
      have Hf11 := Lib.hid (Hf10.out.trans hf11 (fun _ h => Or.inl h))
      clear hn2 hf11 Yw10 Hf10 Hn10
      have h20 := listHeader rev (ns.length : Int) hrev ⟨by omega, by omega⟩ w11
      go_wp2_with (go_at_call 20; refine h20.mono ?_; rintro e w12 ⟨v3, rfl, hown, hv3, hf12⟩; refine Hid.out ?_)
      refine Lib.hid ?_
      clear h20
      have Hm12 : Hid (∀ j u, (Lib.byteCells ru)[j]? = some u → w12.cell? (ad2.add j) = some u) := Lib.hid fun j u hj => hf12.cell (Hm11.out j u hj) (fun h => h)
      have Hn12 : Hid (∀ j u, (Lib.byteCells rt)[j]? = some u → w12.cell? (ad1.add j) = some u) := Lib.hid fun j u hj => hf12.cell (Hn11.out j u hj) (fun h => h)
      have Yw12 := Lib.hid (Yw11.out.fr hf12)
      have Hf12 := Lib.hid (Hf11.out.trans hf12 (fun _ h => Or.inl h))
      have Hv3 := Lib.hid hv3
      have HsX := Lib.hid hf12.size
      have Hown := Lib.hid hown
      have Hlt12 : Hid (∀ (p : Addr) (u : Value), w11.cell? p = some u → some p.block ≠ v3.ownBlock) := Lib.hid fun p u hp e => by
        have h1 := World.block_lt_of_cell? w11 p hp
        have h2 := hv3 _ e.symm
        omega
      have hlr1 : rt.length ≤ 132120624 := by have := HC.out.ltb; rw [HC.out.pt, List.length_append] at this; omega
      have hlr2 : ru.length ≤ 132120624 := by have := HC.out.lub; rw [HC.out.pu, List.length_append] at this; omega
      have hhl := head_len rev (ns.length : Int) hrev ⟨by omega, by omega⟩
      have hbr1 : (Lib.byteCells rt).length = rt.length := Lib.byteCells_length _
      have hbr2 : (Lib.byteCells ru).length = ru.length := Lib.byteCells_length _
      clear hown hv3 hf12
      go_wp2_with (at_builtin; refine wpList_append_x rfl _ _ rfl _ _ _ rfl Hown.out ad1 rt.length e1 (Lib.byteCells rt) rfl hbr1 Hn12.out (Lib.byteCells_one _) (by omega) ?_)
      intro v4 w13 hown4 hg4 hnew4
      have Hm13 : Hid (∀ j u, (Lib.byteCells ru)[j]? = some u → w13.cell? (ad2.add j) = some u) := Lib.hid fun j u hj => (Fr.grown hg4).cell (Hm12.out j u hj) (fun e => Hlt12.out _ u (Hm11.out j u hj) e)
      have Yw13 : Hid (BytesAt gw lw w13) := Lib.hid fun j b hj => (Fr.grown hg4).cell (Yw12.out j b hj) (fun e => Hlt12.out _ _ (Yw11.out j b hj) e)
      have Hf13 : Hid (Fr (fun _ => False) w1 w13) := Lib.hid (Hf12.out.newRow (Fr.grown hg4) (fun k hk => Nat.le_trans Hf11.out.size (Hv3.out k hk)))
      have Hv4 : Hid (∀ k, v4.ownBlock = some k → w11.heap.size ≤ k) := Lib.hid (hnew4.from Hv3.out (by exact HsX.out))
      have Hown4 := Lib.hid hown4
      clear hown4 hg4 hnew4 Hn12 Hm12 Yw12 Hf12 Hown
      go_wp2_with (at_builtin; refine wpList_append_x rfl _ _ rfl _ _ _ rfl Hown4.out ad2 ru.length e2 (Lib.byteCells ru) rfl hbr2 Hm13.out (Lib.byteCells_one _) (by omega) ?_)
      intro v5 w14 hown5 hg5 hnew5
      have Yw14 : BytesAt gw lw w14 := fun j b hj => (Fr.grown hg5).cell (Yw13.out j b hj) (fun e => by
        have h1 := World.block_lt_of_cell? w11 _ (Yw11.out j b hj)
        have h2 := Hv4.out _ e.symm
        simp only at h1 h2
        omega)
      have Hf14 : Hid (Fr (fun _ => False) w1 w14) := Lib.hid (Hf13.out.newRow (Fr.grown hg5) (fun k hk => Nat.le_trans Hf11.out.size (Hv4.out k hk)))
      have hpw := HC.out.pw
      have hcells : Lib.byteCells (head rev (ns.length : Int)) ++ (Lib.byteCells rt ++ Lib.byteCells ru) = Lib.byteCells lw := by rw [hpw, Lib.byteCells_append, Lib.byteCells_append]
      have hsz : (head rev (ns.length : Int)).length + rt.length + ru.length = lw.length := by rw [hpw, List.length_append, List.length_append]; omega
      rw [hcells, hsz] at hown5
      obtain ⟨g5, c5, rfl, hy5⟩ := owns_bytes hown5 HC.out.lw0
      have h16 := sameBytes gw cw g5 c5 lw w14 Yw14 hy5 (by have := HC.out.lwb; omega)
      clear hown5 hg5 hnew5 Yw14 hpw hcells hsz hy5 Hm13 Yw13 Hf13 Hv4 Hown4
      go_wp2_with (go_at_call 16; refine h16.mono ?_; rintro e w15 ⟨rfl, n, rfl⟩; refine Hid.out ?_)
      refine Lib.hid ?_
      clear h16
      go_wp2
      go_ret
      exact ⟨rfl, Hf14.out.drewN n⟩
  · rcases hq2 with rfl | rfl
    · skip
      have h11 := toList rev ns qa qc w1 hql1 Hq.out
      go_wp2_with (go_at_call 11; refine h11.mono ?_; rintro e w2 ⟨qg, rfl, r1, hf2⟩; refine Hid.out ?_)
      refine Lib.hid ?_
      clear h11
      have h18 := zzList rev 3 ns qg ns.length w2 (htab.fr hf2 (fun h => h)) hrev hql1 r1 Hqi.out (by rw [HC.out.ew]; have := HC.out.lwb; omega)
      rw [HC.out.ew] at h18
      have Hf2 := Lib.hid hf2
      clear r1 hf2
      go_wp2_with (go_at_call 18; refine h18.mono ?_; rintro e w3 ⟨rv, rfl, hown, hf3⟩; refine Hid.out ?_)
      refine Lib.hid ?_
      clear h18
      obtain ⟨gw, cw, rfl, hyw, -⟩ := owns_bytes2 hown HC.out.lw0
      have Yw3 := Lib.hid hyw
      have Hf3 := Lib.hid (Hf2.out.trans hf3 (fun _ h => Or.inl h))
      clear hown hyw hf3 Hf2
      have h11 := toList rev ta qa qc w3 HC.out.na (by have := (Hq.out.take k).fr Hf3.out; rw [← HC.out.ha] at this; exact this)
      rw [HC.out.al] at h11
      go_wp2_with (go_at_call 11; refine h11.mono ?_; rintro e w4 ⟨qg2, rfl, r1, hf4⟩; refine Hid.out ?_)
      refine Lib.hid ?_
      clear h11
      have Hf4 := Lib.hid (Hf3.out.trans hf4 (fun _ h => Or.inl h))
      have h18 := zzList rev 2 ta qg2 k w4 (htab.fr Hf4.out (fun h => h)) hrev HC.out.na r1 HC.out.ia (by rw [HC.out.et]; have := HC.out.ltb; omega)
      rw [HC.out.et, HC.out.al] at h18
      have Yw4 := Lib.hid (Yw3.out.fr hf4)
      clear r1 hf4 Hf3 Yw3
      go_wp2_with (go_at_call 18; refine h18.mono ?_; rintro e w5 ⟨rv, rfl, hown, hf5⟩; refine Hid.out ?_)
      refine Lib.hid ?_
      clear h18
      obtain ⟨gt, ct, rfl, hyt, hct⟩ := owns_bytes2 hown HC.out.lt0
      have Yt5 := Lib.hid hyt
      have Yw5 := Lib.hid (Yw4.out.fr hf5)
      have Hf5 := Lib.hid (Hf4.out.trans hf5 (fun _ h => Or.inl h))
      have Hct := Lib.hid hct
      clear hown hyt hf5 Hf4 Yw4 hct
      have h11 := toList rev tb qb cb w5 HC.out.nb (HqB.out.fr Hf5.out)
      go_wp2_with (go_at_call 11; refine h11.mono ?_; rintro e w6 ⟨qg3, rfl, r1, hf6⟩; refine Hid.out ?_)
      refine Lib.hid ?_
      clear h11
      have Hf6 := Lib.hid (Hf5.out.trans hf6 (fun _ h => Or.inl h))
      have h18 := zzList rev 3 tb qg3 tb.length w6 (htab.fr Hf6.out (fun h => h)) hrev HC.out.nb r1 HC.out.ib (by rw [HC.out.eu]; have := HC.out.lub; omega)
      rw [HC.out.eu] at h18
      have Yw6 := Lib.hid (Yw5.out.fr hf6)
      have Yt6 := Lib.hid (Yt5.out.fr hf6)
      clear r1 hf6 Hf5 Yw5 Yt5
      go_wp2_with (go_at_call 18; refine h18.mono ?_; rintro e w7 ⟨rv, rfl, hown, hf7⟩; refine Hid.out ?_)
      refine Lib.hid ?_
      clear h18
      obtain ⟨gu, cu, rfl, hyu, hcu⟩ := owns_bytes2 hown HC.out.lu0
      have Yu7 := Lib.hid hyu
      have Yw7 := Lib.hid (Yw6.out.fr hf7)
      have Yt7 := Lib.hid (Yt6.out.fr hf7)
      have Hf7 := Lib.hid (Hf6.out.trans hf7 (fun _ h => Or.inl h))
      have Hcu := Lib.hid hcu
      clear hown hyu hf7 Hf6 Yw6 Yt6 hcu
      have h20 := listHeader rev (k : Int) hrev ⟨by omega, by omega⟩ w7
      go_wp2_with (go_at_call 20; refine h20.mono ?_; rintro e w8 ⟨v1, rfl, hown, hv1, hf8⟩; refine Hid.out ?_)
      refine Lib.hid ?_
      clear h20
      obtain ⟨g1, c1, rfl, hy1, -⟩ := owns_bytes2 hown (head_pos rev (k : Int))
      have h14 := dropPrefix gt ct g1 c1 lt (head rev (k : Int)) rt w8 HC.out.pt (Yt7.out.fr hf8) hy1 Hct.out (by have := HC.out.ltb; omega)
      have Yu8 := Lib.hid (Yu7.out.fr hf8)
      have Yw8 := Lib.hid (Yw7.out.fr hf8)
      have Hf8 := Lib.hid (Hf7.out.trans hf8 (fun _ h => Or.inl h))
      clear hown hv1 hf8 hy1 Yu7 Yw7 Yt7 Hf7 Hct
      generalize (head rev (k : Int)).length = hl1 at h14
      go_wp2_with (go_at_call 14; refine h14.mono ?_; rintro e w9 ⟨ad1, e1, rfl, hn1, hf9⟩; refine Hid.out ?_)
      refine Lib.hid ?_
      clear h14
      have Hn9 := Lib.hid hn1
      have Yu9 := Lib.hid (Yu8.out.fr hf9)
      have Yw9 := Lib.hid (Yw8.out.fr hf9)
      have Hf9 := Lib.hid (Hf8.out.trans hf9 (fun _ h => Or.inl h))
      clear hn1 hf9 Yu8 Yw8 Hf8
      have h20 := listHeader rev ((ns.length : Int) - (k : Int)) hrev ⟨by omega, by omega⟩ w9
      go_wp2_with (go_at_call 20; refine h20.mono ?_; rintro e w10 ⟨v1, rfl, hown, hv1, hf10⟩; refine Hid.out ?_)
      refine Lib.hid ?_
      clear h20
      obtain ⟨g2, c2, rfl, hy2, -⟩ := owns_bytes2 hown (head_pos rev ((ns.length : Int) - (k : Int)))
      have h14 := dropPrefix gu cu g2 c2 lu (head rev ((ns.length : Int) - (k : Int))) ru w10 HC.out.pu (Yu9.out.fr hf10) hy2 Hcu.out (by have := HC.out.lub; omega)
      have Hn10 : Hid (∀ j u, (Lib.byteCells rt)[j]? = some u → w10.cell? (ad1.add j) = some u) := Lib.hid fun j u hj => hf10.cell (Hn9.out j u hj) (fun h => h)
      have Yw10 := Lib.hid (Yw9.out.fr hf10)
      have Hf10 := Lib.hid (Hf9.out.trans hf10 (fun _ h => Or.inl h))
      clear hown hv1 hf10 hy2 Yu9 Yw9 Hf9 Hn9 Hcu
      generalize (head rev ((ns.length : Int) - (k : Int))).length = hl2 at h14
      go_wp2_with (go_at_call 14; refine h14.mono ?_; rintro e w11 ⟨ad2, e2, rfl, hn2, hf11⟩; refine Hid.out ?_)
      refine Lib.hid ?_
      clear h14
      have Hm11 := Lib.hid hn2
      have Hn11 : Hid (∀ j u, (Lib.byteCells rt)[j]? = some u → w11.cell? (ad1.add j) = some u) := Lib.hid fun j u hj => hf11.cell (Hn10.out j u hj) (fun h => h)
      have Yw11 := Lib.hid (Yw10.out.fr hf11)
      have Hf11 := Lib.hid (Hf10.out.trans hf11 (fun _ h => Or.inl h))
      clear hn2 hf11 Yw10 Hf10 Hn10
      have h20 := listHeader rev (ns.length : Int) hrev ⟨by omega, by omega⟩ w11
      go_wp2_with (go_at_call 20; refine h20.mono ?_; rintro e w12 ⟨v3, rfl, hown, hv3, hf12⟩; refine Hid.out ?_)
      refine Lib.hid ?_
      clear h20
      have Hm12 : Hid (∀ j u, (Lib.byteCells ru)[j]? = some u → w12.cell? (ad2.add j) = some u) := Lib.hid fun j u hj => hf12.cell (Hm11.out j u hj) (fun h => h)
      have Hn12 : Hid (∀ j u, (Lib.byteCells rt)[j]? = some u → w12.cell? (ad1.add j) = some u) := Lib.hid fun j u hj => hf12.cell (Hn11.out j u hj) (fun h => h)
      have Yw12 := Lib.hid (Yw11.out.fr hf12)
      have Hf12 := Lib.hid (Hf11.out.trans hf12 (fun _ h => Or.inl h))
      have Hv3 := Lib.hid hv3
      have HsX := Lib.hid hf12.size
      have Hown := Lib.hid hown
      have Hlt12 : Hid (∀ (p : Addr) (u : Value), w11.cell? p = some u → some p.block ≠ v3.ownBlock) := Lib.hid fun p u hp e => by
        have h1 := World.block_lt_of_cell? w11 p hp
        have h2 := hv3 _ e.symm
        omega
      have hlr1 : rt.length ≤ 132120624 := by have := HC.out.ltb; rw [HC.out.pt, List.length_append] at this; omega
      have hlr2 : ru.length ≤ 132120624 := by have := HC.out.lub; rw [HC.out.pu, List.length_append] at this; omega
      have hhl := head_len rev (ns.length : Int) hrev ⟨by omega, by omega⟩
      have hbr1 : (Lib.byteCells rt).length = rt.length := Lib.byteCells_length _
      have hbr2 : (Lib.byteCells ru).length = ru.length := Lib.byteCells_length _
      clear hown hv3 hf12
      go_wp2_with (at_builtin; refine wpList_append_x rfl _ _ rfl _ _ _ rfl Hown.out ad1 rt.length e1 (Lib.byteCells rt) rfl hbr1 Hn12.out (Lib.byteCells_one _) (by omega) ?_)
      intro v4 w13 hown4 hg4 hnew4
      have Hm13 : Hid (∀ j u, (Lib.byteCells ru)[j]? = some u → w13.cell? (ad2.add j) = some u) := Lib.hid fun j u hj => (Fr.grown hg4).cell (Hm12.out j u hj) (fun e => Hlt12.out _ u (Hm11.out j u hj) e)
      have Yw13 : Hid (BytesAt gw lw w13) := Lib.hid fun j b hj => (Fr.grown hg4).cell (Yw12.out j b hj) (fun e => Hlt12.out _ _ (Yw11.out j b hj) e)
      have Hf13 : Hid (Fr (fun _ => False) w1 w13) := Lib.hid (Hf12.out.newRow (Fr.grown hg4) (fun k hk => Nat.le_trans Hf11.out.size (Hv3.out k hk)))
      have Hv4 : Hid (∀ k, v4.ownBlock = some k → w11.heap.size ≤ k) := Lib.hid (hnew4.from Hv3.out (by exact HsX.out))
      have Hown4 := Lib.hid hown4
      clear hown4 hg4 hnew4 Hn12 Hm12 Yw12 Hf12 Hown
      go_wp2_with (at_builtin; refine wpList_append_x rfl _ _ rfl _ _ _ rfl Hown4.out ad2 ru.length e2 (Lib.byteCells ru) rfl hbr2 Hm13.out (Lib.byteCells_one _) (by omega) ?_)
      intro v5 w14 hown5 hg5 hnew5
      have Yw14 : BytesAt gw lw w14 := fun j b hj => (Fr.grown hg5).cell (Yw13.out j b hj) (fun e => by
        have h1 := World.block_lt_of_cell? w11 _ (Yw11.out j b hj)
        have h2 := Hv4.out _ e.symm
        simp only at h1 h2
        omega)
      have Hf14 : Hid (Fr (fun _ => False) w1 w14) := Lib.hid (Hf13.out.newRow (Fr.grown hg5) (fun k hk => Nat.le_trans Hf11.out.size (Hv4.out k hk)))
      have hpw := HC.out.pw
      have hcells : Lib.byteCells (head rev (ns.length : Int)) ++ (Lib.byteCells rt ++ Lib.byteCells ru) = Lib.byteCells lw := by rw [hpw, Lib.byteCells_append, Lib.byteCells_append]
      have hsz : (head rev (ns.length : Int)).length + rt.length + ru.length = lw.length := by rw [hpw, List.length_append, List.length_append]; omega
      rw [hcells, hsz] at hown5
      obtain ⟨g5, c5, rfl, hy5⟩ := owns_bytes hown5 HC.out.lw0
      have h16 := sameBytes gw cw g5 c5 lw w14 Yw14 hy5 (by have := HC.out.lwb; omega)
      clear hown5 hg5 hnew5 Yw14 hpw hcells hsz hy5 Hm13 Yw13 Hf13 Hv4 Hown4
      go_wp2_with (go_at_call 16; refine h16.mono ?_; rintro e w15 ⟨rfl, n, rfl⟩; refine Hid.out ?_)
      refine Lib.hid ?_
      clear h16
      go_wp2
      go_ret
      exact ⟨rfl, Hf14.out.drewN n⟩
    · skip
      have h11 := toList rev ns qa qc w1 hql1 Hq.out
      go_wp2_with (go_at_call 11; refine h11.mono ?_; rintro e w2 ⟨qg, rfl, r1, hf2⟩; refine Hid.out ?_)
      refine Lib.hid ?_
      clear h11
      have h18 := zzList rev 3 ns qg ns.length w2 (htab.fr hf2 (fun h => h)) hrev hql1 r1 Hqi.out (by rw [HC.out.ew]; have := HC.out.lwb; omega)
      rw [HC.out.ew] at h18
      have Hf2 := Lib.hid hf2
      clear r1 hf2
      go_wp2_with (go_at_call 18; refine h18.mono ?_; rintro e w3 ⟨rv, rfl, hown, hf3⟩; refine Hid.out ?_)
      refine Lib.hid ?_
      clear h18
      obtain ⟨gw, cw, rfl, hyw, -⟩ := owns_bytes2 hown HC.out.lw0
      have Yw3 := Lib.hid hyw
      have Hf3 := Lib.hid (Hf2.out.trans hf3 (fun _ h => Or.inl h))
      clear hown hyw hf3 Hf2
      have h11 := toList rev ta qa qc w3 HC.out.na (by have := (Hq.out.take k).fr Hf3.out; rw [← HC.out.ha] at this; exact this)
      rw [HC.out.al] at h11
      go_wp2_with (go_at_call 11; refine h11.mono ?_; rintro e w4 ⟨qg2, rfl, r1, hf4⟩; refine Hid.out ?_)
      refine Lib.hid ?_
      clear h11
      have Hf4 := Lib.hid (Hf3.out.trans hf4 (fun _ h => Or.inl h))
      have h18 := zzList rev 3 ta qg2 k w4 (htab.fr Hf4.out (fun h => h)) hrev HC.out.na r1 HC.out.ia (by rw [HC.out.et]; have := HC.out.ltb; omega)
      rw [HC.out.et, HC.out.al] at h18
      have Yw4 := Lib.hid (Yw3.out.fr hf4)
      clear r1 hf4 Hf3 Yw3
      go_wp2_with (go_at_call 18; refine h18.mono ?_; rintro e w5 ⟨rv, rfl, hown, hf5⟩; refine Hid.out ?_)
      refine Lib.hid ?_
      clear h18
      obtain ⟨gt, ct, rfl, hyt, hct⟩ := owns_bytes2 hown HC.out.lt0
      have Yt5 := Lib.hid hyt
      have Yw5 := Lib.hid (Yw4.out.fr hf5)
      have Hf5 := Lib.hid (Hf4.out.trans hf5 (fun _ h => Or.inl h))
      have Hct := Lib.hid hct
      clear hown hyt hf5 Hf4 Yw4 hct
      have h11 := toList rev tb qb cb w5 HC.out.nb (HqB.out.fr Hf5.out)
      go_wp2_with (go_at_call 11; refine h11.mono ?_; rintro e w6 ⟨qg3, rfl, r1, hf6⟩; refine Hid.out ?_)
      refine Lib.hid ?_
      clear h11
      have Hf6 := Lib.hid (Hf5.out.trans hf6 (fun _ h => Or.inl h))
      have h18 := zzList rev 3 tb qg3 tb.length w6 (htab.fr Hf6.out (fun h => h)) hrev HC.out.nb r1 HC.out.ib (by rw [HC.out.eu]; have := HC.out.lub; omega)
      rw [HC.out.eu] at h18
      have Yw6 := Lib.hid (Yw5.out.fr hf6)
      have Yt6 := Lib.hid (Yt5.out.fr hf6)
      clear r1 hf6 Hf5 Yw5 Yt5
      go_wp2_with (go_at_call 18; refine h18.mono ?_; rintro e w7 ⟨rv, rfl, hown, hf7⟩; refine Hid.out ?_)
      refine Lib.hid ?_
      clear h18
      obtain ⟨gu, cu, rfl, hyu, hcu⟩ := owns_bytes2 hown HC.out.lu0
      have Yu7 := Lib.hid hyu
      have Yw7 := Lib.hid (Yw6.out.fr hf7)
      have Yt7 := Lib.hid (Yt6.out.fr hf7)
      have Hf7 := Lib.hid (Hf6.out.trans hf7 (fun _ h => Or.inl h))
      have Hcu := Lib.hid hcu
      clear hown hyu hf7 Hf6 Yw6 Yt6 hcu
      have h20 := listHeader rev (k : Int) hrev ⟨by omega, by omega⟩ w7
      go_wp2_with (go_at_call 20; refine h20.mono ?_; rintro e w8 ⟨v1, rfl, hown, hv1, hf8⟩; refine Hid.out ?_)
      refine Lib.hid ?_
      clear h20
      obtain ⟨g1, c1, rfl, hy1, -⟩ := owns_bytes2 hown (head_pos rev (k : Int))
      have h14 := dropPrefix gt ct g1 c1 lt (head rev (k : Int)) rt w8 HC.out.pt (Yt7.out.fr hf8) hy1 Hct.out (by have := HC.out.ltb; omega)
      have Yu8 := Lib.hid (Yu7.out.fr hf8)
      have Yw8 := Lib.hid (Yw7.out.fr hf8)
      have Hf8 := Lib.hid (Hf7.out.trans hf8 (fun _ h => Or.inl h))
      clear hown hv1 hf8 hy1 Yu7 Yw7 Yt7 Hf7 Hct
      generalize (head rev (k : Int)).length = hl1 at h14
      go_wp2_with (go_at_call 14; refine h14.mono ?_; rintro e w9 ⟨ad1, e1, rfl, hn1, hf9⟩; refine Hid.out ?_)
      refine Lib.hid ?_
      clear h14
      have Hn9 := Lib.hid hn1
      have Yu9 := Lib.hid (Yu8.out.fr hf9)
      have Yw9 := Lib.hid (Yw8.out.fr hf9)
      have Hf9 := Lib.hid (Hf8.out.trans hf9 (fun _ h => Or.inl h))
      clear hn1 hf9 Yu8 Yw8 Hf8
      have h20 := listHeader rev ((ns.length : Int) - (k : Int)) hrev ⟨by omega, by omega⟩ w9
      go_wp2_with (go_at_call 20; refine h20.mono ?_; rintro e w10 ⟨v1, rfl, hown, hv1, hf10⟩; refine Hid.out ?_)
      refine Lib.hid ?_
      clear h20
      obtain ⟨g2, c2, rfl, hy2, -⟩ := owns_bytes2 hown (head_pos rev ((ns.length : Int) - (k : Int)))
      have h14 := dropPrefix gu cu g2 c2 lu (head rev ((ns.length : Int) - (k : Int))) ru w10 HC.out.pu (Yu9.out.fr hf10) hy2 Hcu.out (by have := HC.out.lub; omega)
      have Hn10 : Hid (∀ j u, (Lib.byteCells rt)[j]? = some u → w10.cell? (ad1.add j) = some u) := Lib.hid fun j u hj => hf10.cell (Hn9.out j u hj) (fun h => h)
      have Yw10 := Lib.hid (Yw9.out.fr hf10)
      have Hf10 := Lib.hid (Hf9.out.trans hf10 (fun _ h => Or.inl h))
      clear hown hv1 hf10 hy2 Yu9 Yw9 Hf9 Hn9 Hcu
      generalize (head rev ((ns.length : Int) - (k : Int))).length = hl2 at h14
      go_wp2_with (go_at_call 14; refine h14.mono ?_; rintro e w11 ⟨ad2, e2, rfl, hn2, hf11⟩; refine Hid.out ?_)
      refine Lib.hid ?_
      clear h14
      have Hm11 := Lib.hid hn2
      have Hn11 : Hid (∀ j u, (Lib.byteCells rt)[j]? = some u → w11.cell? (ad1.add j) = some u) := Lib.hid fun j u hj => hf11.cell (Hn10.out j u hj) (fun h => h)
      have Yw11 := Lib.hid (Yw10.out.fr hf11)
      have Hf11 := Lib.hid (Hf10.out.trans hf11 (fun _ h => Or.inl h))
      clear hn2 hf11 Yw10 Hf10 Hn10
      have h20 := listHeader rev (ns.length : Int) hrev ⟨by omega, by omega⟩ w11
      go_wp2_with (go_at_call 20; refine h20.mono ?_; rintro e w12 ⟨v3, rfl, hown, hv3, hf12⟩; refine Hid.out ?_)
      refine Lib.hid ?_
      clear h20
      have Hm12 : Hid (∀ j u, (Lib.byteCells ru)[j]? = some u → w12.cell? (ad2.add j) = some u) := Lib.hid fun j u hj => hf12.cell (Hm11.out j u hj) (fun h => h)
      have Hn12 : Hid (∀ j u, (Lib.byteCells rt)[j]? = some u → w12.cell? (ad1.add j) = some u) := Lib.hid fun j u hj => hf12.cell (Hn11.out j u hj) (fun h => h)
      have Yw12 := Lib.hid (Yw11.out.fr hf12)
      have Hf12 := Lib.hid (Hf11.out.trans hf12 (fun _ h => Or.inl h))
      have Hv3 := Lib.hid hv3
      have HsX := Lib.hid hf12.size
      have Hown := Lib.hid hown
      have Hlt12 : Hid (∀ (p : Addr) (u : Value), w11.cell? p = some u → some p.block ≠ v3.ownBlock) := Lib.hid fun p u hp e => by
        have h1 := World.block_lt_of_cell? w11 p hp
        have h2 := hv3 _ e.symm
        omega
      have hlr1 : rt.length ≤ 132120624 := by have := HC.out.ltb; rw [HC.out.pt, List.length_append] at this; omega
      have hlr2 : ru.length ≤ 132120624 := by have := HC.out.lub; rw [HC.out.pu, List.length_append] at this; omega
      have hhl := head_len rev (ns.length : Int) hrev ⟨by omega, by omega⟩
      have hbr1 : (Lib.byteCells rt).length = rt.length := Lib.byteCells_length _
      have hbr2 : (Lib.byteCells ru).length = ru.length := Lib.byteCells_length _
      clear hown hv3 hf12
      go_wp2_with (at_builtin; refine wpList_append_x rfl _ _ rfl _ _ _ rfl Hown.out ad1 rt.length e1 (Lib.byteCells rt) rfl hbr1 Hn12.out (Lib.byteCells_one _) (by omega) ?_)
      intro v4 w13 hown4 hg4 hnew4
      have Hm13 : Hid (∀ j u, (Lib.byteCells ru)[j]? = some u → w13.cell? (ad2.add j) = some u) := Lib.hid fun j u hj => (Fr.grown hg4).cell (Hm12.out j u hj) (fun e => Hlt12.out _ u (Hm11.out j u hj) e)
      have Yw13 : Hid (BytesAt gw lw w13) := Lib.hid fun j b hj => (Fr.grown hg4).cell (Yw12.out j b hj) (fun e => Hlt12.out _ _ (Yw11.out j b hj) e)
      have Hf13 : Hid (Fr (fun _ => False) w1 w13) := Lib.hid (Hf12.out.newRow (Fr.grown hg4) (fun k hk => Nat.le_trans Hf11.out.size (Hv3.out k hk)))
      have Hv4 : Hid (∀ k, v4.ownBlock = some k → w11.heap.size ≤ k) := Lib.hid (hnew4.from Hv3.out (by exact HsX.out))
      have Hown4 := Lib.hid hown4
      clear hown4 hg4 hnew4 Hn12 Hm12 Yw12 Hf12 Hown
      go_wp2_with (at_builtin; refine wpList_append_x rfl _ _ rfl _ _ _ rfl Hown4.out ad2 ru.length e2 (Lib.byteCells ru) rfl hbr2 Hm13.out (Lib.byteCells_one _) (by omega) ?_)
      intro v5 w14 hown5 hg5 hnew5
      have Yw14 : BytesAt gw lw w14 := fun j b hj => (Fr.grown hg5).cell (Yw13.out j b hj) (fun e => by
        have h1 := World.block_lt_of_cell? w11 _ (Yw11.out j b hj)
        have h2 := Hv4.out _ e.symm
        simp only at h1 h2
        omega)
      have Hf14 : Hid (Fr (fun _ => False) w1 w14) := Lib.hid (Hf13.out.newRow (Fr.grown hg5) (fun k hk => Nat.le_trans Hf11.out.size (Hv4.out k hk)))
      have hpw := HC.out.pw
      have hcells : Lib.byteCells (head rev (ns.length : Int)) ++ (Lib.byteCells rt ++ Lib.byteCells ru) = Lib.byteCells lw := by rw [hpw, Lib.byteCells_append, Lib.byteCells_append]
      have hsz : (head rev (ns.length : Int)).length + rt.length + ru.length = lw.length := by rw [hpw, List.length_append, List.length_append]; omega
      rw [hcells, hsz] at hown5
      obtain ⟨g5, c5, rfl, hy5⟩ := owns_bytes hown5 HC.out.lw0
      have h16 := sameBytes gw cw g5 c5 lw w14 Yw14 hy5 (by have := HC.out.lwb; omega)
      clear hown5 hg5 hnew5 Yw14 hpw hcells hsz hy5 Hm13 Yw13 Hf13 Hv4 Hown4
      go_wp2_with (go_at_call 16; refine h16.mono ?_; rintro e w15 ⟨rfl, n, rfl⟩; refine Hid.out ?_)
      refine Lib.hid ?_
      clear h16
      go_wp2
      go_ret
      exact ⟨rfl, Hf14.out.drewN n⟩
end Go.Proofs.Qxb6614442aDoor
