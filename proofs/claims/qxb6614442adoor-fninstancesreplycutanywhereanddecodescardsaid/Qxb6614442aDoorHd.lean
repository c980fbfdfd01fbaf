import Derived.Test.Qxb6614442aDoorAd
namespace Go.Proofs.Qxb6614442aDoor
open Go.RowKit

/-- A new block of bytes is owned. -/
theorem owns_one (w : World) (b : Int) : (w.alloc (.cells #[.int .u8 b] 5)).ownsRow 0 5 1 (.slice (some ⟨w.heap.size, 0, none⟩) 1 1) 1 [.int .u8 b] :=
  ⟨rfl, Or.inr ⟨w.heap.size, 1, _, rfl, Nat.zero_le _, heap_alloc_new _ _, Nat.le_refl _, by unfold maxLen; omega, rfl, rfl⟩⟩

/-- A new row of the bytes l is returned. -/
def RowSaid (l : List UInt8) (w : World) (e : Ending) (w' : World) : Prop := ∃ v', e = .returned v' ∧ w'.ownsRow 0 5 1 v' l.length (Lib.byteCells l) ∧ (∀ k, v'.ownBlock = some k → w.heap.size ≤ k) ∧ Fr (fun _ => False) w w'

def head (rev n : Int) : List UInt8 := num 58 rev ++ num 42 n

theorem RowNew.from {w w1 : World} {v v' : Value} (h : RowNew w1 v v') (hv : ∀ k, v.ownBlock = some k → w.heap.size ≤ k) (hs : w.heap.size ≤ w1.heap.size) : ∀ k, v'.ownBlock = some k → w.heap.size ≤ k := by
  intro k hk
  rcases h with e | ⟨k2, e1, e2⟩
  · exact hv k (by rw [← e]; exact hk)
  · rw [e1] at hk; injection hk with hk; omega

theorem Fr.newRow {w w1 w2 : World} {v : Value} (f : Fr (fun _ => False) w w1) (g : Fr (fun k => some k = v.ownBlock) w1 w2) (hv : ∀ k, v.ownBlock = some k → w.heap.size ≤ k) : Fr (fun _ => False) w w2 :=
  f.trans g (fun k hk => Or.inr (hv k hk.symm))

set_option maxHeartbeats 1000000 in
set_option maxRecDepth 20000 in
theorem listHeader (rev n : Int) (hrev : i64 rev) (hn : i64 n) (w : World) : Calls Tryd.prog 20 #[.int .i64 rev, .int .i64 n] w (RowSaid (head rev n) w) := by
  have l1 := Lib.itoa_length_le rev hrev.1 hrev.2
  have l2 := Lib.itoa_length_le n hn.1 hn.2
  have hf0 : Fr (fun _ => False) w (w.alloc (.cells #[.int .u8 58] 5)) := (Fr.refl _ w).alloc _
  have hv0 : ∀ k, (Value.slice (some ⟨w.heap.size, 0, none⟩) 1 1).ownBlock = some k → w.heap.size ≤ k := fun k hk => by simp [Value.ownBlock] at hk; omega
  have h1 := appendDec 1 rev hrev _ _ _ (owns_one w 58) (by omega)
  have Hf0 := Lib.hid hf0
  have Hv0 := Lib.hid hv0
  clear hf0 hv0
  go_enter Tryd.func20, Tryd.ntmps20
  go_wp2_with (go_at_call 28; refine h1.mono ?_; rintro e w1 ⟨v1, rfl, hown1, hnew1, hf1⟩; refine Hid.out ?_)
  refine Lib.hid ?_
  have Hv1 := Lib.hid (hnew1.from Hv0.out Hf0.out.size)
  have Hf1 := Lib.hid (Hf0.out.newRow hf1 Hv0.out)
  clear h1 hnew1 hf1 Hf0 Hv0
  have Hown1 := Lib.hid hown1
  clear hown1
  go_wp2_with (at_builtin; refine wpList_append_x_string rfl _ _ rfl _ _ _ rfl Hown1.out ⟨#[13, 10, 42]⟩ rfl (by simp [ByteArray.size]; omega) ?_)
  intro v2 w2 hown2 hg2 hnew2
  have Hv2 := Lib.hid (hnew2.from Hv1.out Hf1.out.size)
  have Hf2 := Lib.hid (Hf1.out.newRow (Fr.grown hg2) Hv1.out)
  have h2 := appendDec _ n hn _ _ _ hown2 (by simp; omega)
  clear hown2 hg2 hnew2 Hown1 Hv1 Hf1
  go_wp2_with (go_at_call 28; refine h2.mono ?_; rintro e w3 ⟨v3, rfl, hown3, hnew3, hf3⟩; refine Hid.out ?_)
  refine Lib.hid ?_
  have Hv3 := Lib.hid (hnew3.from Hv2.out Hf2.out.size)
  have Hf3 := Lib.hid (Hf2.out.newRow hf3 Hv2.out)
  have Hown3 := Lib.hid hown3
  clear h2 hnew3 hf3 Hf2 Hv2 hown3
  go_wp2_with (at_builtin; refine wpList_append_x_string rfl _ _ rfl _ _ _ rfl Hown3.out ⟨#[13, 10]⟩ rfl (by simp [ByteArray.size]; omega) ?_)
  intro v4 w4 hown4 hg4 hnew4
  have Hv4 := Lib.hid (hnew4.from Hv3.out Hf3.out.size)
  have Hf4 := Lib.hid (Hf3.out.newRow (Fr.grown hg4) Hv3.out)
  have Hown4 := Lib.hid hown4
  clear hown4 hg4 hnew4 Hown3 Hv3 Hf3
  go_wp2
  go_ret
  refine ⟨v4, rfl, ?_, Hv4.out, Hf4.out⟩
  have h9 := Hown4.out
  have e2 : (Value.int .u8 58 :: (Lib.byteCells (Lib.itoa rev) ++ (Lib.byteCells [13, 10, 42] ++ (Lib.byteCells (Lib.itoa n) ++ Lib.byteCells [13, 10])))) = Lib.byteCells (head rev n) := by
    simp [head, num, Lib.byteCells]
  have e1 : 1 + (Lib.itoa rev).length + 3 + (Lib.itoa n).length + 2 = (head rev n).length := by simp [head, num]; omega
  rw [← e1, ← e2]
  exact h9

theorem owns_bytes2 {w : World} {r : Value} {l : List UInt8} (h : w.ownsRow 0 5 1 r l.length (Lib.byteCells l)) (hl : 0 < l.length) : ∃ g cap, r = .slice (some ⟨g, 0, none⟩) l.length cap ∧ BytesAt g l w ∧ l.length ≤ cap := by
  obtain ⟨g, cap, rfl, hb⟩ := owns_bytes h hl
  refine ⟨g, cap, rfl, hb, ?_⟩
  rcases h.2 with ⟨e, h0⟩ | ⟨g2, cap2, cur, e, -, -, h1, -, -, -⟩
  · omega
  · injection e with e1 e2 e3
    omega

theorem wpList_append_full2 {w : World} {ops : Array Oper} {rest : List Oper} {o : Oper} {a : Act} {Q : Exit → Act → World → Prop} (hgd : o.guard = none) (s x : Operand)
    (ho : o.op = .call { callee := .builtin .append, args := #[s, x], argTypes := #[25, 25] })
    (g n : Nat) (xs : List Value) (hs : a.eval s = .slice (some ⟨g, 0, none⟩) n n) (hn : xs.length = n) (holds : ∀ j u, xs[j]? = some u → w.cell? ((⟨g, 0, none⟩ : Addr).add j) = some u)
    (ad : Addr) (m c : Nat) (news : List Value) (hx : a.eval x = .slice (some ad) m c) (hl : news.length = m) (hnews : ∀ j u, news[j]? = some u → w.cell? (ad.add j) = some u) (hm : 0 < m)
    (hbytes : n + m ≤ 140737488355328)
    (h : ∀ v' w', w'.ownsRow 0 5 1 v' (n + m) (xs ++ news) → (∀ k, v'.ownBlock = some k → w.heap.size ≤ k) → Fr (fun _ => False) w w' → wpList Tryd.prog ops Q rest (a.put o.dst v') w') : wpList Tryd.prog ops Q (o :: rest) a w := by
  refine wpList_plain hgd fun K hK => ?_
  obtain ⟨v', w', hr, h2, h3⟩ := run_append_full w o.type g n xs hn holds ad m c news hl hnews hm hbytes
  have hnew : ∀ k, v'.ownBlock = some k → w.heap.size ≤ k := by
    obtain ⟨i, hi, hz0, hz1, hz2⟩ := info_parts infoByte
    have hr2 := run_append_grow (P := Tryd.prog) w 25 o.type 5 i (.int .u8 0) Tryd.underlying25 hi hz0 ⟨g, 0, none⟩ n n xs (by rw [hz1]; omega) holds ad m c news (by rw [hz1]; omega) hnews (by omega) (by omega) (growslice_fits (by omega) (by rw [hz2]; omega))
    rw [hr] at hr2
    injection hr2 with e1 e2
    intro k hk
    rw [e1] at hk
    simp [Value.ownBlock] at hk
    omega
  unfold Oper.wp execOp
  simp only [ho, resolve, invoke, builtin, Sem.run_bind, Sem.run_pure, Result.andThen_ok, List.map_toArray, List.map_cons, List.map_nil, hs, hx, hr]
  exact hK _ _ (h v' w' h2 hnew h3)

set_option maxHeartbeats 1000000 in
set_option maxRecDepth 20000 in
theorem replyHeader (rev n : Int) (hrev : i64 rev) (hn : i64 n) (w : World) : Calls Tryd.prog 15 #[.int .i64 rev, .int .i64 n] w (RowSaid (num 42 2 ++ head rev n) w) := by
  have l1 := num_length 58 rev hrev.1 hrev.2
  have l2 := num_length 42 n hn.1 hn.2
  have hcv := fun (w : World) (C : Array Value) (n c : Nat) => Lib.run_convert_bytes_const (P := Tryd.prog) w 25 5 C n c Tryd.underlying25 Tryd.underlying5
  have hfm : Fr (fun _ => False) w (marked w) := (Fr.refl _ w).alloc _
  have h1 := listHeader rev n hrev hn (marked w)
  have Hmk := Lib.hid (marked_bytes w)
  have Hfm := Lib.hid hfm
  clear hfm
  go_enter Tryd.func15, Tryd.ntmps15
  go_wp2_with (go_at_call 20; refine h1.mono ?_; rintro e w1 ⟨v1, rfl, hown1, hv1, hf1⟩; refine Hid.out ?_)
  refine Lib.hid ?_
  clear h1
  obtain ⟨g, cap, rfl, hb, hcap⟩ := owns_bytes2 hown1 (by simp [head, num])
  have Hmk1 := Lib.hid (Hmk.out.fr hf1).cells
  have Hb := Lib.hid hb.cells
  have Hf1 := Lib.hid (Hfm.out.trans hf1 (fun _ h => Or.inl h))
  have hll : (Lib.byteCells (head rev n)).length = (head rev n).length := Lib.byteCells_length _
  have hl0 : 0 < (head rev n).length := by simp [head, num]
  have hlm : (head rev n).length ≤ 48 := by simp only [head, List.length_append]; omega
  clear hown1 hv1 hf1 hb Hfm Hmk hcap
  generalize hhd : head rev n = hd at Hb hll hl0 hlm
  have Hhd := Lib.hid hhd
  clear hhd
  go_wp2_with (at_builtin; refine wpList_append_full2 rfl _ _ rfl w.heap.size 4 (Lib.byteCells [42, 50, 13, 10]) rfl rfl Hmk1.out ⟨g, 0, none⟩ hd.length cap (Lib.byteCells hd) rfl hll Hb.out hl0 (by omega) ?_)
  intro v2 w2 hown2 hnew2 hf2
  have Hown2 := Lib.hid hown2
  have Hv2 : Hid (∀ k, v2.ownBlock = some k → w.heap.size ≤ k) := Lib.hid fun k hk => Nat.le_trans Hf1.out.size (hnew2 k hk)
  have Hf2 := Lib.hid (Hf1.out.trans hf2 (fun _ h => Or.inl h))
  clear hown2 hnew2 hf2
  go_wp2
  go_ret
  refine ⟨v2, rfl, ?_, Hv2.out, Hf2.out⟩
  have h9 := Hown2.out
  rw [← Lib.byteCells_append] at h9
  rw [num_two, Hhd.out, List.length_append]
  exact h9

theorem slice_h (g len cap n : Nat) (h1 : n ≤ cap) (W : World) : (Instr.slice 25 (.slice (some ⟨g, 0, none⟩) len cap) none (some (.int .i64 (n : Int))) none).run Tryd.prog W = .ok (.slice (some ⟨g, 0, none⟩) n cap) W := by
  rw [run_slice_h W 25 _ _ _ (by kernel_rfl) .i64 (n : Int) (by omega) (by omega)]
  simp [sliced, size25, Lib.addr_add]

/-- b[len(h):] -/
theorem slice_from (g len cap n : Nat) (h1 : n ≤ len) (h2 : len ≤ cap) : ∃ ad c, (∀ W : World, (Instr.slice 25 (.slice (some ⟨g, 0, none⟩) len cap) (some (.int .i64 (n : Int))) none none).run Tryd.prog W = .ok (.slice (some ad) (len - n) c) W) ∧ (n < len → ad = ⟨g, n, none⟩) := by
  by_cases h : n < cap
  · exact ⟨⟨g, n, none⟩, cap - n, slice_l0 g len cap n h1 h, fun _ => rfl⟩
  · obtain rfl : cap = len := by omega
    obtain rfl : n = cap := by omega
    refine ⟨⟨g, 0, none⟩, 0, fun W => ?_, fun h => by omega⟩
    rw [Nat.sub_self]
    exact slice_full g 0 n n rfl W

def Dropped (r : List UInt8) (w : World) (e : Ending) (w' : World) : Prop := ∃ ad c, e = .returned (.tuple #[.slice (some ad) r.length c, .bool true]) ∧ (∀ j u, (Lib.byteCells r)[j]? = some u → w'.cell? (ad.add j) = some u) ∧ Fr (fun _ => False) w w'

set_option maxHeartbeats 1000000 in
set_option maxRecDepth 20000 in
theorem dropPrefix (gb cb gh ch : Nat) (b h r : List UInt8) (w : World) (hb : b = h ++ r) (yb : BytesAt gb b w) (yh : BytesAt gh h w) (hcb : b.length ≤ cb) (hlen : b.length ≤ 1073741824) :
    Calls Tryd.prog 14 #[.slice (some ⟨gb, 0, none⟩) b.length cb, .slice (some ⟨gh, 0, none⟩) h.length ch] w (Dropped r w) := by
  have hbl : b.length = h.length + r.length := by rw [hb, List.length_append]
  have hs1 := fun W => slice_h gb b.length cb h.length (by omega) W
  obtain ⟨ad, c, hs2, had⟩ := slice_from gb b.length cb h.length (by omega) hcb
  rw [show b.length - h.length = r.length by omega] at hs2
  have y1 : BytesAt gb h w := fun j x hj => yb j x (by rw [hb, List.getElem?_append_left (List.getElem?_eq_some_iff.1 hj).1]; exact hj)
  have h16 := sameBytes gb cb gh ch h w y1 yh (by omega)
  have hnew : ∀ j u, (Lib.byteCells r)[j]? = some u → w.cell? (ad.add j) = some u := by
    intro j u hj
    unfold Lib.byteCells at hj
    rw [List.getElem?_map] at hj
    obtain ⟨x, hx, rfl⟩ := Option.map_eq_some_iff.1 hj
    have hjr := (List.getElem?_eq_some_iff.1 hx).1
    rw [had (by omega), Go.WideShapes.add_plain]
    refine yb _ x ?_
    rw [hb, List.getElem?_append_right (by omega), Nat.add_sub_cancel_left]
    exact hx
  have Hnew := Lib.hid hnew
  have hle : (h.length : Int) ≤ (b.length : Int) := by omega
  clear had y1 yb yh hnew hb hbl
  go_enter Tryd.func14, Tryd.ntmps14
  go_wp2_with (go_at_call 16; refine h16.mono ?_; rintro e w1 ⟨rfl, n, rfl⟩; refine Hid.out ?_)
  refine Lib.hid ?_
  clear h16
  go_wp2
  go_ret2
  exact ⟨ad, c, rfl, fun j u hj => Hnew.out j u hj, (Fr.refl _ w).drewN n⟩
end Go.Proofs.Qxb6614442aDoor
