import Derived.Test.Qxb6614442aDoorLm
import Derived.Test.Qxb6614442aDoorLaw6w
import Derived.Lib.SlBytesConst
namespace Go.Proofs.Qxb6614442aDoor
open Go.RowKit

theorem num_two : num 42 2 = [42, 50, 13, 10] := by decide +kernel

theorem BytesAt.fr {g : Nat} {l : List UInt8} {w w' : World} (h : BytesAt g l w) (f : Fr (fun _ => False) w w') : BytesAt g l w' := fun j b hj => f.cell (h j b hj) (fun e => e)

theorem BytesAt.cells {g : Nat} {l : List UInt8} {w : World} (h : BytesAt g l w) : ∀ j u, (Lib.byteCells l)[j]? = some u → w.cell? ((⟨g, 0, none⟩ : Addr).add j) = some u := fun j u hj => by
  unfold Lib.byteCells at hj
  rw [List.getElem?_map] at hj
  obtain ⟨b, hb, rfl⟩ := Option.map_eq_some_iff.1 hj
  have := h j b hb
  rw [Go.WideShapes.add_plain, Nat.zero_add]
  exact this

/-- append to a slice that is full: a new row. -/
theorem run_append_full (w : World) (ty : TypeId) (g n : Nat) (xs : List Value) (hn : xs.length = n) (holds : ∀ j u, xs[j]? = some u → w.cell? ((⟨g, 0, none⟩ : Addr).add j) = some u)
    (a : Addr) (m c : Nat) (news : List Value) (hl : news.length = m) (hnews : ∀ j u, news[j]? = some u → w.cell? (a.add j) = some u) (hm : 0 < m) (hbytes : n + m ≤ 140737488355328) :
    ∃ v' w', (Builtin.append_ #[25, 25] ty #[.slice (some ⟨g, 0, none⟩) n n, .slice (some a) m c]).run Tryd.prog w = .ok v' w' ∧ w'.ownsRow 0 5 1 v' (n + m) (xs ++ news) ∧ Fr (fun _ => False) w w' := by
  obtain ⟨i, hi, hz0, hz1, hz2⟩ := info_parts infoByte
  have hr := run_append_grow (P := Tryd.prog) w 25 ty 5 i (.int .u8 0) Tryd.underlying25 hi hz0 ⟨g, 0, none⟩ n n xs (by rw [hz1]; omega) holds a m c news (by rw [hz1]; omega) hnews (by omega) (by omega) (growslice_fits (by omega) (by rw [hz2]; omega))
  refine ⟨_, _, hr, ⟨by rw [List.length_append]; omega, Or.inr ⟨w.heap.size, _, _, rfl, Nat.zero_le _, heap_alloc_new w.drew _, grownCap_ge w (n + m) n 5, grownCap_le_maxLen w (n + m) n 5 (by unfold maxLen; omega), ?_, ?_⟩⟩, (Fr.refl _ w).drew.alloc _⟩
  · have hge := grownCap_ge w (n + m) n 5
    simp only [Array.size_append, List.size_toArray, size_zeroCells]
    rw [show (Value.int .u8 0).cells.size = 1 from rfl]
    omega
  · simp only [Array.toList_append, List.append_assoc]
    rw [← List.append_assoc, Nat.mul_one, show n + m = (xs ++ news).length by rw [List.length_append]; omega]
    exact List.take_left

theorem wpList_append_full {w : World} {ops : Array Oper} {rest : List Oper} {o : Oper} {a : Act} {Q : Exit → Act → World → Prop} (hgd : o.guard = none) (s x : Operand)
    (ho : o.op = .call { callee := .builtin .append, args := #[s, x], argTypes := #[25, 25] })
    (g n : Nat) (xs : List Value) (hs : a.eval s = .slice (some ⟨g, 0, none⟩) n n) (hn : xs.length = n) (holds : ∀ j u, xs[j]? = some u → w.cell? ((⟨g, 0, none⟩ : Addr).add j) = some u)
    (ad : Addr) (m c : Nat) (news : List Value) (hx : a.eval x = .slice (some ad) m c) (hl : news.length = m) (hnews : ∀ j u, news[j]? = some u → w.cell? (ad.add j) = some u) (hm : 0 < m)
    (hbytes : n + m ≤ 140737488355328)
    (h : ∀ v' w', w'.ownsRow 0 5 1 v' (n + m) (xs ++ news) → Fr (fun _ => False) w w' → wpList Tryd.prog ops Q rest (a.put o.dst v') w') : wpList Tryd.prog ops Q (o :: rest) a w := by
  refine wpList_plain hgd fun K hK => ?_
  obtain ⟨v', w', hr, h2, h3⟩ := run_append_full w o.type g n xs hn holds ad m c news hl hnews hm hbytes
  unfold Oper.wp execOp
  simp only [ho, resolve, invoke, builtin, Sem.run_bind, Sem.run_pure, Result.andThen_ok, List.map_toArray, List.map_cons, List.map_nil, hs, hx, hr]
  exact hK _ _ (h v' w' h2 h3)

/-- A new, marked row of bytes. -/
abbrev marked (w : World) : World := w.alloc (.cells #[.int .u8 42, .int .u8 50, .int .u8 13, .int .u8 10] 5 (4, 5))

theorem marked_bytes (w : World) : BytesAt w.heap.size [42, 50, 13, 10] (marked w) := fun j b hj => by
  have hb : (marked w).heap[w.heap.size]? = some (.cells #[.int .u8 42, .int .u8 50, .int .u8 13, .int .u8 10] 5 (4, 5)) := heap_alloc_new _ _
  rw [Lib.cell_of_heap hb]
  match j, hj with
  | 0, hj => simp at hj; subst hj; rfl
  | 1, hj => simp at hj; subst hj; rfl
  | 2, hj => simp at hj; subst hj; rfl
  | 3, hj => simp at hj; subst hj; rfl

/-- What a list's cost tells. -/
theorem cost_of (ns : List Nd) (hc : listCost ns ≤ 1048576) : ns.length ≤ 1048576 ∧ ∀ q ∈ ns, q.name.size ≤ 1048576 ∧ q.addr.size ≤ 1048576 ∧ q.note.size ≤ 1048576 := by
  unfold listCost at hc
  refine ⟨by omega, fun q hq => ?_⟩
  have m := mem_sumBy Nd.cost ns q hq
  unfold Nd.cost at m
  have hx : (fun x : Nd => x.name.size + x.addr.size + x.note.size) = Nd.cost := rfl
  rw [hx] at m
  omega

set_option maxHeartbeats 8000000 in
set_option maxRecDepth 20000 in
theorem law4 (rev pr : Int) (ns : List Nd) (qa : Option Addr) (qc : Nat) (w : World) (htab : Tab w) (hrev : i64 rev) (hql : ns.length ≤ 9223372036854775807) (hq : ARows qa 4 (ns.map Nd.cells) w)
    (hqi : ∀ q ∈ ns, i64 q.weight) (hqs : ∀ q ∈ ns, q.name.size ≤ 9223372036854775807 ∧ q.addr.size ≤ 9223372036854775807 ∧ q.note.size ≤ 9223372036854775807) :
    Calls Tryd.prog 4 #[.int .i64 rev, .slice qa ns.length qc, .int .i64 pr] w (TrueSaid w) := by
  have hcv := fun (w : World) (C : Array Value) (n c : Nat) => Lib.run_convert_bytes_const (P := Tryd.prog) w 25 5 C n c Tryd.underlying25 Tryd.underlying5
  have h21 := zzBytes17 rev pr ns qa qc w hql hq hqs
  have Hq := Lib.hid hq
  have Hqi := Lib.hid hqi
  clear hq hqi hqs
  go_enter Tryd.func4, Tryd.ntmps4
  go_wp2_with (go_at_call 17; refine h21.mono ?_; rintro e w' ⟨b, rfl, rfl, hcost⟩; refine Hid.out ?_)
  refine Lib.hid ?_
  clear h21
  cases b
  · go_wp2
    go_ret
    exact ⟨rfl, Fr.refl _ _⟩
  have hcost := hcost rfl
  have Hcost := Lib.hid hcost
  clear hcost
  obtain ⟨hql1, hsz1⟩ := cost_of ns Hcost.out
  have h22 := instsTooBig ns qa qc w' hql1 Hq.out hsz1
  clear hsz1
  have hlb := encList_len rev ns hrev Hqi.out Hcost.out
  have hlre : (encReply rev ns).length = 4 + (encList rev ns).length := by unfold encReply; rw [List.length_append, num_two]; rfl
  go_wp2_with (go_at_call 9; refine h22.mono ?_; rintro e w1 ⟨b, rfl, rfl, -⟩; refine Hid.out ?_)
  refine Lib.hid ?_
  clear h22
  cases b
  rotate_left
  · go_wp2
    go_ret
    exact ⟨rfl, Fr.refl _ _⟩
  by_cases hp2 : pr = 2
  · subst hp2
    have h11 := toList rev ns qa qc w1 hql1 Hq.out
    go_wp2_with (go_at_call 11; refine h11.mono ?_; rintro e w2 ⟨qg, rfl, r1, hf2⟩; refine Hid.out ?_)
    refine Lib.hid ?_
    clear h11
    have hfa : Fr (fun _ => False) w2 (w2.alloc (.cells #[.int .i64 rev, .slice (some ⟨qg, 0, none⟩) ns.length ns.length] 29)) := (Fr.refl _ w2).alloc _
    have h18 := zzList rev 2 ns qg ns.length (w2.alloc (.cells #[.int .i64 rev, .slice (some ⟨qg, 0, none⟩) ns.length ns.length] 29)) ((htab.fr hf2 (fun h => h)).fr hfa (fun h => h)) hrev hql1 (hfa.rows_kept r1 (fun h => h)) Hqi.out (by omega)
    have Hf2 := Lib.hid (hf2.trans hfa (fun _ h => Or.inl h))
    have R1 := Lib.hid (hfa.rows_kept r1 (fun h => h))
    have hbx : (w2.alloc (.cells #[.int .i64 rev, .slice (some ⟨qg, 0, none⟩) ns.length ns.length] 29)).heap[w2.heap.size]? = some (.cells #[.int .i64 rev, .slice (some ⟨qg, 0, none⟩) ns.length ns.length] 29 (0, 0)) := heap_alloc_new _ _
    have Hbx := Lib.hid hbx
    clear r1 hfa hf2 hbx
    go_wp2_with (go_at_call 18; refine h18.mono ?_; rintro e w4 ⟨rv, rfl, hown, hf4⟩; refine Hid.out ?_)
    refine Lib.hid ?_
    clear h18
    have hbx := hf4.heap Hbx.out (fun h => h)
    have c0 : w4.cell? ⟨w2.heap.size, 0, none⟩ = some (.int .i64 rev) := by rw [Lib.cell_of_heap hbx]; rfl
    have c1 : w4.cell? ⟨w2.heap.size, 1, none⟩ = some (.slice (some ⟨qg, 0, none⟩) ns.length ns.length) := by rw [Lib.cell_of_heap hbx]; rfl
    have hf5 := Hf2.out.trans hf4 (fun _ h => Or.inl h)
    have h10 := instancesReply rev ns qg ns.length w4 (htab.fr hf5 (fun h => h)) hrev hql1 (hf4.rows_kept R1.out (fun h => h)) Hqi.out (by omega)
    obtain ⟨gb, cb, rfl, hyb⟩ := owns_bytes hown (by simp [encList, num])
    have Hyb := Lib.hid hyb
    have Hf5 := Lib.hid hf5
    clear Hf2 Hbx hbx hf4 hown hyb hf5 R1
    go_wp2_with (go_at_call 10; refine h10.mono ?_; rintro e w5 ⟨rv, rfl, hown, hf6⟩; refine Hid.out ?_)
    refine Lib.hid ?_
    clear h10 c0 c1
    obtain ⟨gr, cr, rfl, hyr⟩ := owns_bytes hown (by simp [encReply, num])
    have Hyr := Lib.hid hyr
    have Hf6 := Lib.hid (Hf5.out.trans hf6 (fun _ h => Or.inl h))
    have Hyb2 := Lib.hid (Hyb.out.fr hf6)
    clear hown hyr hf6 Hyb Hf5
    have h13 := matchList gb cb (encList rev ns) [] [] rev ns qa qc w5 (by simp) (by omega) Hyb2.out hrev hql1 (Hq.out.fr Hf6.out) Hqi.out 0 rfl
    rw [List.nil_append] at h13
    have hlri : (encReply rev ns).length ≤ 1073740824 := by omega
    generalize hll : encList rev ns = lb at hlb h13
    have Hll := Lib.hid hll
    generalize hlr : encReply rev ns = lr at hlri
    have Hlr := Lib.hid hlr
    clear hll hlr hlre
    go_wp2_with (go_at_call 13; refine h13.mono ?_; rintro e w6 ⟨rfl, hf7⟩; refine Hid.out ?_)
    refine Lib.hid ?_
    clear h13
    have Hf7 := Lib.hid (Hf6.out.trans hf7 (fun _ h => Or.inl h))
    have hyb7 : BytesAt gb lb w6 := by have := Hyb2.out.fr hf7; rw [Hll.out] at this; exact this
    have hyr7 : BytesAt gr lr w6 := by have := Hyr.out.fr hf7; rw [Hlr.out] at this; exact this
    have hfm : Fr (fun _ => False) w6 (marked w6) := (Fr.refl _ w6).alloc _
    have HyrW := Lib.hid (hyr7.fr hfm)
    have hlbl : (Lib.byteCells lb).length = lb.length := Lib.byteCells_length lb
    have Hnw := Lib.hid (hyb7.fr hfm).cells
    have Hmk := Lib.hid (marked_bytes w6).cells
    have HfM := Lib.hid (Hf7.out.trans hfm (fun _ h => Or.inl h))
    have hlb0 : 0 < lb.length := by rw [← Hll.out]; simp [encList, num]
    clear hf7 hyb7 hyr7 Hyb2 Hyr Hf6 hfm
    go_wp2_with (at_builtin; refine wpList_append_full rfl _ _ rfl w6.heap.size 4 (Lib.byteCells [42, 50, 13, 10]) rfl rfl Hmk.out ⟨gb, 0, none⟩ lb.length cb (Lib.byteCells lb) rfl hlbl Hnw.out hlb0 (by omega) ?_)
    intro v' w7 hown' hf8
    rw [← Lib.byteCells_append] at hown'
    have hlrl : lr = [42, 50, 13, 10] ++ lb := by rw [← Hlr.out, ← Hll.out, ← num_two]; rfl
    have hsz : 4 + lb.length = lr.length := by rw [hlrl, List.length_append]; rfl
    rw [hsz, ← hlrl] at hown'
    obtain ⟨gw, cw, rfl, hyw⟩ := owns_bytes hown' (by rw [hlrl]; simp)
    have hyr8 : BytesAt gr lr w7 := HyrW.out.fr hf8
    have h16 := sameBytes gr cr gw cw lr w7 hyr8 hyw (by omega)
    have Hf8 : Hid (Fr (fun _ => False) w1 w7) := Lib.hid (HfM.out.trans hf8 (fun _ h => Or.inl h))
    clear hown' hlrl hsz hyw hf8 hyr8 Hnw hlbl HyrW Hmk HfM
    go_wp2_with (go_at_call 16; refine h16.mono ?_; rintro e w8 ⟨rfl, n, rfl⟩; refine Hid.out ?_)
    refine Lib.hid ?_
    clear h16
    go_wp2
    go_ret
    exact ⟨rfl, Hf8.out.drewN n⟩
  by_cases hp3 : pr = 3
  · subst hp3
    clear hp2
    have h11 := toList rev ns qa qc w1 hql1 Hq.out
    go_wp2_with (go_at_call 11; refine h11.mono ?_; rintro e w2 ⟨qg, rfl, r1, hf2⟩; refine Hid.out ?_)
    refine Lib.hid ?_
    clear h11
    have hfa : Fr (fun _ => False) w2 (w2.alloc (.cells #[.int .i64 rev, .slice (some ⟨qg, 0, none⟩) ns.length ns.length] 29)) := (Fr.refl _ w2).alloc _
    have h18 := zzList rev 3 ns qg ns.length (w2.alloc (.cells #[.int .i64 rev, .slice (some ⟨qg, 0, none⟩) ns.length ns.length] 29)) ((htab.fr hf2 (fun h => h)).fr hfa (fun h => h)) hrev hql1 (hfa.rows_kept r1 (fun h => h)) Hqi.out (by omega)
    have Hf2 := Lib.hid (hf2.trans hfa (fun _ h => Or.inl h))
    have R1 := Lib.hid (hfa.rows_kept r1 (fun h => h))
    have hbx : (w2.alloc (.cells #[.int .i64 rev, .slice (some ⟨qg, 0, none⟩) ns.length ns.length] 29)).heap[w2.heap.size]? = some (.cells #[.int .i64 rev, .slice (some ⟨qg, 0, none⟩) ns.length ns.length] 29 (0, 0)) := heap_alloc_new _ _
    have Hbx := Lib.hid hbx
    clear r1 hfa hf2 hbx
    go_wp2_with (go_at_call 18; refine h18.mono ?_; rintro e w4 ⟨rv, rfl, hown, hf4⟩; refine Hid.out ?_)
    refine Lib.hid ?_
    clear h18
    have hbx := hf4.heap Hbx.out (fun h => h)
    have c0 : w4.cell? ⟨w2.heap.size, 0, none⟩ = some (.int .i64 rev) := by rw [Lib.cell_of_heap hbx]; rfl
    have c1 : w4.cell? ⟨w2.heap.size, 1, none⟩ = some (.slice (some ⟨qg, 0, none⟩) ns.length ns.length) := by rw [Lib.cell_of_heap hbx]; rfl
    have hf5 := Hf2.out.trans hf4 (fun _ h => Or.inl h)
    have h10 := instancesReply rev ns qg ns.length w4 (htab.fr hf5 (fun h => h)) hrev hql1 (hf4.rows_kept R1.out (fun h => h)) Hqi.out (by omega)
    obtain ⟨gb, cb, rfl, hyb⟩ := owns_bytes hown (by simp [encList, num])
    have Hyb := Lib.hid hyb
    have Hf5 := Lib.hid hf5
    clear Hf2 Hbx hbx hf4 hown hyb hf5 R1
    go_wp2_with (go_at_call 10; refine h10.mono ?_; rintro e w5 ⟨rv, rfl, hown, hf6⟩; refine Hid.out ?_)
    refine Lib.hid ?_
    clear h10 c0 c1
    obtain ⟨gr, cr, rfl, hyr⟩ := owns_bytes hown (by simp [encReply, num])
    have Hyr := Lib.hid hyr
    have Hf6 := Lib.hid (Hf5.out.trans hf6 (fun _ h => Or.inl h))
    have Hyb2 := Lib.hid (Hyb.out.fr hf6)
    clear hown hyr hf6 Hyb Hf5
    have h13 := matchList gb cb (encList rev ns) [] [] rev ns qa qc w5 (by simp) (by omega) Hyb2.out hrev hql1 (Hq.out.fr Hf6.out) Hqi.out 0 rfl
    rw [List.nil_append] at h13
    have hlri : (encReply rev ns).length ≤ 1073740824 := by omega
    generalize hll : encList rev ns = lb at hlb h13
    have Hll := Lib.hid hll
    generalize hlr : encReply rev ns = lr at hlri
    have Hlr := Lib.hid hlr
    clear hll hlr hlre
    go_wp2_with (go_at_call 13; refine h13.mono ?_; rintro e w6 ⟨rfl, hf7⟩; refine Hid.out ?_)
    refine Lib.hid ?_
    clear h13
    have Hf7 := Lib.hid (Hf6.out.trans hf7 (fun _ h => Or.inl h))
    have hyb7 : BytesAt gb lb w6 := by have := Hyb2.out.fr hf7; rw [Hll.out] at this; exact this
    have hyr7 : BytesAt gr lr w6 := by have := Hyr.out.fr hf7; rw [Hlr.out] at this; exact this
    have hfm : Fr (fun _ => False) w6 (marked w6) := (Fr.refl _ w6).alloc _
    have HyrW := Lib.hid (hyr7.fr hfm)
    have hlbl : (Lib.byteCells lb).length = lb.length := Lib.byteCells_length lb
    have Hnw := Lib.hid (hyb7.fr hfm).cells
    have Hmk := Lib.hid (marked_bytes w6).cells
    have HfM := Lib.hid (Hf7.out.trans hfm (fun _ h => Or.inl h))
    have hlb0 : 0 < lb.length := by rw [← Hll.out]; simp [encList, num]
    clear hf7 hyb7 hyr7 Hyb2 Hyr Hf6 hfm
    go_wp2_with (at_builtin; refine wpList_append_full rfl _ _ rfl w6.heap.size 4 (Lib.byteCells [42, 50, 13, 10]) rfl rfl Hmk.out ⟨gb, 0, none⟩ lb.length cb (Lib.byteCells lb) rfl hlbl Hnw.out hlb0 (by omega) ?_)
    intro v' w7 hown' hf8
    rw [← Lib.byteCells_append] at hown'
    have hlrl : lr = [42, 50, 13, 10] ++ lb := by rw [← Hlr.out, ← Hll.out, ← num_two]; rfl
    have hsz : 4 + lb.length = lr.length := by rw [hlrl, List.length_append]; rfl
    rw [hsz, ← hlrl] at hown'
    obtain ⟨gw, cw, rfl, hyw⟩ := owns_bytes hown' (by rw [hlrl]; simp)
    have hyr8 : BytesAt gr lr w7 := HyrW.out.fr hf8
    have h16 := sameBytes gr cr gw cw lr w7 hyr8 hyw (by omega)
    have Hf8 : Hid (Fr (fun _ => False) w1 w7) := Lib.hid (HfM.out.trans hf8 (fun _ h => Or.inl h))
    clear hown' hlrl hsz hyw hf8 hyr8 Hnw hlbl HyrW Hmk HfM
    go_wp2_with (go_at_call 16; refine h16.mono ?_; rintro e w8 ⟨rfl, n, rfl⟩; refine Hid.out ?_)
    refine Lib.hid ?_
    clear h16
    go_wp2
    go_ret
    exact ⟨rfl, Hf8.out.drewN n⟩
  · have b2 : (pr != 2) = true := by simp [hp2]
    have b3 : (pr != 3) = true := by simp [hp3]
    go_wp2
    go_ret
    exact ⟨rfl, Fr.refl _ _⟩
end Go.Proofs.Qxb6614442aDoor
