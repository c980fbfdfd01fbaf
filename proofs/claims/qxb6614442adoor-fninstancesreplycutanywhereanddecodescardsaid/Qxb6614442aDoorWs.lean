import Derived.Test.Qxb6614442aDoorWr
import Derived.Lib.Strings
import Derived.Lib.IndexBytes
namespace Go.Proofs.Qxb6614442aDoor
open Go.RowKit

theorem run_copy_string_part {P : Program} (w : World) (dT sT ty elem : TypeId) (g o dLen dCap : Nat) (s : ByteArray) (cur : Array Value) (t : TypeId)
    (hu : P.underlying dT = some (.slice elem)) (hs : (P.info? elem).map (·.size) = some 1) (hg : w.heap[g]? = some (.cells cur t (0, 0))) (hle : dLen ≤ s.size) (hfit : o + dLen ≤ cur.size) :
    (Builtin.copy_ #[dT, sT] ty #[.slice (some ⟨g, o, none⟩) dLen dCap, .string s]).run P w =
      .ok (goInt dLen) (w.setRow g (cur.toList.take o ++ Lib.byteCells (s.data.toList.take dLen) ++ cur.toList.drop (o + dLen)).toArray) := by
  have hlen : (Lib.byteCells (s.data.toList.take dLen)).length = dLen := by rw [Lib.byteCells_length, List.length_take, ← Lib.size_eq]; omega
  have hst := run_storeCells_at P g o t (Lib.byteCells (s.data.toList.take dLen)) 0 cur w hg (by rw [hlen]; simpa using hfit) (Lib.byteCells_one _)
  have hmin : Nat.min s.size dLen = dLen := Nat.min_eq_right hle
  have htk : List.take dLen (List.map (fun b : UInt8 => Value.int IntKind.u8 (b.toNat : Int)) s.data.toList) = Lib.byteCells (s.data.toList.take dLen) := by
    unfold Lib.byteCells; rw [List.map_take]
  rw [hlen] at hst
  simp only [Nat.add_zero] at hst
  cases hq : P.info? elem with
  | none => simp [hq] at hs
  | some i =>
    simp [Builtin.copy_, run_underlying hu, Builtin.lenOf, Builtin.firstCells, sizeOf, typeInfo, hq, hmin]
    rw [htk, hst]
    simp [Result.andThen]

theorem asString (a : Addr) (w : World) : (Instr.typeAssert (.iface 70 (.pointer (some a))) 97 117 true).run Tryd.prog w = .ok (.tuple #[.iface 70 (.pointer (some a)), .bool true]) w := by kernel_rfl

theorem run_copy_zero (fb : Nat) (t : ByteArray) (W : World) : (Builtin.copy_ #[25, 9] 3 #[.slice (some ⟨fb, 0, none⟩) 0 0, .string t]).run Tryd.prog W = .ok (goInt 0) W := by
  obtain ⟨i, hi, hz0, hz1, hz2⟩ := info_parts infoByte
  simp [Builtin.copy_, run_underlying Tryd.underlying25, Builtin.lenOf, Builtin.firstCells, sizeOf, typeInfo, hi, storeCells]

set_option maxHeartbeats 1000000 in
set_option maxRecDepth 20000 in
theorem bw_WriteString (bw fb bb : Nat) (bufv : Value) (l1 l2 : List UInt8) (s : ByteArray) (w : World) (h : Bw bw fb bb bufv l1 l2 w) (hlim : l1.length + l2.length + s.size ≤ 1073741824) :
    Calls Tryd.prog 45 #[.pointer (some ⟨bw, 0, none⟩), .string s] w fun e w' => e = .returned (.tuple #[.int .i64 s.size, .nilIface]) ∧ 
      ∃ bufv' l1' l2', l1' ++ l2' = l1 ++ l2 ++ s.data.toList ∧ Bw bw fb bb bufv' l1' l2' w' ∧ RowNew w bufv bufv' ∧ Fr (Bw.S bw bb fb bufv) w w' := by
  go_enter Tryd.func45, Tryd.ntmps45
  go_wp2
  go_loopg [1, 6, 7, 8] 2 (fun k sv sw tr nn wr => ∃ (t : ByteArray) (j : Nat) (bufv' : Value) (l1' l2' : List UInt8), j + t.size = s.size ∧ t.data.toList = s.data.toList.drop j ∧ ((k = 0 ∧ t.size = 0) ∨ (sw = .nilIface ∧ (k = 2 ∨ (k = 1 ∧ l2' = [])))) ∧ sv = .string t ∧ tr = .bool true ∧ nn = .int .i64 (j : Int) ∧ Bw bw fb bb bufv' l1' l2' wr ∧ l1' ++ l2' = l1 ++ l2 ++ s.data.toList.take j ∧ RowNew w bufv bufv' ∧ Fr (Bw.S bw bb fb bufv) w wr)
  case atStart => exact ⟨s, 0, bufv, l1, l2, by omega, by simp, Or.inr ⟨rfl, Or.inl rfl⟩, rfl, rfl, rfl, h, by simp, Or.inl rfl, Fr.refl _ _⟩
  case round =>
    obtain ⟨t, j, bufv', l1', l2', hjt, htl, hk, rfl, rfl, rfl, hB, hl, hnew, hfr⟩ := hrel
    have hle := hB.hle
    have c0 := hB.c0; have c1 := hB.c1; have c2 := hB.c2; 
    have Hl : Hid (l1' ++ l2' = l1 ++ l2 ++ s.data.toList.take j) := hl
    have Htl : Hid (t.data.toList = s.data.toList.drop j) := htl
    have Hjt : Hid (j + t.size = s.size) := hjt
    have hjb : j ≤ s.size := by omega
    have htb : t.size ≤ 1073741824 := by omega
    have hjb2 : (j : Int) ≤ 1073741824 := by omega
    have hsum : (j : Int) + (t.size : Int) ≤ 1073741824 := by omega
    clear hl h htl hjt
    by_cases hfit : t.size ≤ 4096 - l2'.length
    · have ht : ¬ ((4096 : Int) - (l2'.length : Int) < (t.size : Int)) := by omega
      have ht2 : decide ((4096 : Int) - (l2'.length : Int) < (t.size : Int)) = false := by simp; omega
      obtain ⟨cur, hf, hcs, htk⟩ := hB.hfb
      clear hk
      by_cases hful : l2'.length = 4096
      · have Hf : Hid (l2'.length = 4096) := hful
        have h0 : t.size = 0 := by omega
        have hge : (4096 : Int) ≤ (l2'.length : Int) := by omega
        have hlt0 : (l2'.length : Int) ≤ 4096 := by omega
        have hsl := slice_full fb 0 4096 l2'.length hful
        clear hful
        have hcp := fun W => Lib.run_copy_empty_string (P := Tryd.prog) W 25 9 3 5 (some ⟨fb, 0, none⟩) 0 0 t Tryd.underlying25 (by rw [infoSize]; rfl) h0
        have H0 : Hid (t.size = 0) := h0
        clear h0
        go_wp2_with (go_at_call 48; refine (available bw fb bb bufv' l1' l2' wr hB).mono ?_; rintro e w' ⟨rfl, n, rfl⟩)
        have hB0 := hB.drewN n
        have hfr0 := hfr.drewN n
        clear hB hfr c0 c1 c2 hf
        generalize wr.drewN n = W0 at *
        have c1 := hB0.c1; have c2 := hB0.c2; have f2 := hB0.f 2
        go_region_held3 (fun w' => w'.cell? ⟨bw, 1, none⟩ = some (.slice (some ⟨fb, 0, none⟩) 4096 4096) ∧ w'.cell? ⟨bw, 2, none⟩ = some (.int .i64 (l2'.length : Int))) (go_keep)
          (first | (go_at_call 82; fail))
        go_wp2
        go_ret2
        obtain ⟨hB1, hfr1⟩ := hB0.same
        have hfin : ∀ x : Int, x = (s.size : Int) → Ending.returned (.tuple #[.int .i64 x, .nilIface]) = .returned (.tuple #[.int .i64 s.size, .nilIface]) := by rintro x rfl; rfl
        have hjs : j = s.size := by have := Hjt.out; have := H0.out; omega
        refine ⟨hfin _ (by omega), bufv', l1', l2', ?_, hB1, hnew, hfr0.trans hfr1 ?_⟩
        · rw [Hl.out, List.take_of_length_le (by rw [← Lib.size_eq, hjs]; exact Nat.le_refl _)]
        · rintro k rfl
          exact Or.inl (Or.inl rfl)
      · have hrl : Hid (t.data.toList.length = t.size) := (Lib.size_eq t).symm
        have hsl := slice_l0 fb 4096 4096 l2'.length (by omega) (by omega)
        have hcp : ∀ (W : World), W.heap = wr.heap → (Builtin.copy_ #[25, 9] 3 #[.slice (some ⟨fb, l2'.length, none⟩) (4096 - l2'.length) (4096 - l2'.length), .string t]).run Tryd.prog W = .ok (goInt t.size) (W.setRow fb (cur.toList.take l2'.length ++ Lib.byteCells t.data.toList ++ cur.toList.drop (l2'.length + t.size)).toArray) := by
          intro W hW
          exact Lib.run_copy_row_string (P := Tryd.prog) W 25 9 3 5 fb l2'.length (4096 - l2'.length) (4096 - l2'.length) t cur 5 Tryd.underlying25 infoSize (by rw [hW]; exact hf) hfit (by omega)
        go_wp2_with (go_at_call 48; refine (available bw fb bb bufv' l1' l2' wr hB).mono ?_; rintro e w' ⟨rfl, n, rfl⟩)
        have hlt : (l2'.length : Int) < 4096 := by omega
        have hlt0 : (0 : Int) ≤ (l2'.length : Int) := by omega
        have hcp1 := hcp (wr.drewN n).drew rfl
        have hB0 := hB.drewN n
        have hfr0 := hfr.drewN n
        have hf0 : (wr.drewN n).heap[fb]? = some (.cells cur 5 (0, 0)) := hf
        clear hcp hB hfr c0 c1 c2 hf
        generalize wr.drewN n = W0 at *
        have c1 := hB0.c1; have c2 := hB0.c2
        have hfbw : bw ≠ fb := tag_ne hB0.hbw hf0 (by decide)
        have hst : ∀ cs, Fr (fun k => k = fb) W0 (W0.drew.setRow fb cs) := fun cs => ((Fr.refl (fun k => k = fb) W0).drew).setRow (Or.inl rfl) cs
        have d1 : ∀ cs, (W0.drew.setRow fb cs).cell? ⟨bw, 1, none⟩ = some (.slice (some ⟨fb, 0, none⟩) 4096 4096) := fun cs => (hst cs).cell c1 hfbw
        have d2 : ∀ cs, (W0.drew.setRow fb cs).cell? ⟨bw, 2, none⟩ = some (.int .i64 (l2'.length : Int)) := fun cs => (hst cs).cell c2 hfbw
        have e2 : ∀ cs, (W0.drew.setRow fb cs).frozen? ⟨bw, 2, none⟩ = false := fun cs => Lib.frozen_of_heap ((hst cs).heap hB0.hbw hfbw) 2
        go_region_held3 (fun w' => w'.cell? ⟨bw, 1, none⟩ = some (.slice (some ⟨fb, 0, none⟩) 4096 4096) ∧ w'.cell? ⟨bw, 2, none⟩ = some (.int .i64 (l2'.length : Int))) (go_keep)
          (first | (go_at_call 82; fail))
        go_wp2
        go_ret2
        obtain ⟨hB1, hfr1⟩ := hB0.put hf0 hcs t.data.toList t.size _ hrl.out (by omega) rfl
        have hfin : ∀ x : Int, x = (s.size : Int) → Ending.returned (.tuple #[.int .i64 x, .nilIface]) = .returned (.tuple #[.int .i64 s.size, .nilIface]) := by rintro x rfl; rfl
        refine ⟨hfin _ (by have := Hjt.out; omega), bufv', l1', l2' ++ t.data.toList, ?_, hB1, hnew, hfr0.trans hfr1 ?_⟩
        · rw [← List.append_assoc, Hl.out, Htl.out, List.append_assoc _ (s.data.toList.take j), List.take_append_drop]
        · rintro k (rfl | rfl)
          · exact Or.inl (Or.inl rfl)
          · exact Or.inl (Or.inr (Or.inr (Or.inl rfl)))
    · have ht : (4096 : Int) - (l2'.length : Int) < (t.size : Int) := by omega
      rcases hk with ⟨-, e⟩ | ⟨rfl, hk⟩
      · omega
      by_cases hemp : l2' = []
      · subst hemp
        have HK : Hid (0 < gk) := by rcases hk with e | ⟨e, -⟩ <;> (show 0 < gk; omega)
        clear hk
        have c3 := hB.c3
        have f0 := hB.f 0
        simp only [List.length_nil] at c2
        have hn1' := nilWriteString
        have hm1' := methWriteString
        have hta := asString
        obtain ⟨cur, hf, hcs, htk⟩ := hB.hfb
        have hbb := hB.hbb
        have hbw := hB.hbw
        have hab : fb ≠ bb := by obtain ⟨⟨lr, q⟩, -, -⟩ := hbb; exact tag_ne hf q (by decide)
        have hbwb : bw ≠ bb := by obtain ⟨⟨lr, q⟩, -, -⟩ := hbb; exact tag_ne hbw q (by decide)
        have hfbw : fb ≠ bw := tag_ne hf hbw (by decide)
        have hbwk : ¬ (bw = bb ∨ some bw = bufv'.ownBlock) := by
          rintro (e | e)
          · exact hbwb e
          · obtain ⟨c, hc⟩ := own_tag hbb.2.1 e.symm; exact tag_ne hc hbw (by decide) rfl
        have hfbk : ¬ (fb = bb ∨ some fb = bufv'.ownBlock) := by
          rintro (e | e)
          · exact hab e
          · exact hB.hne e.symm
        have hl1 : l1'.length ≤ 1073741824 := by
          have := congrArg List.length Hl.out
          simp only [List.length_append, List.length_take, List.length_nil] at this
          omega
        have hW : ∀ n, Calls Tryd.prog 83 #[.pointer (some ⟨bb, 0, none⟩), .string t] (wr.drewN n) fun e w' => e = .returned (.tuple #[.int .i64 t.size, .nilIface]) ∧
            (w'.cell? ⟨bw, 0, none⟩ = some .nilIface ∧ w'.frozen? ⟨bw, 0, none⟩ = false) ∧ w'.heap[bw]? = wr.heap[bw]? ∧ w'.heap[fb]? = wr.heap[fb]? ∧
            ∃ v', BufAt bb v' (Lib.byteCells (l1' ++ t.data.toList)) w' ∧ RowNew wr bufv' v' ∧ Fr (fun k => k = bb ∨ some k = bufv'.ownBlock) wr w' := by
          intro n
          refine (buf_WriteString bb bufv' (Lib.byteCells l1') t (wr.drewN n) hbb (Lib.byteCells_one _) (by omega) (by rw [Lib.byteCells_length]; omega)).mono ?_
          rintro e w' ⟨rfl, v', q1, q2, q3⟩
          rw [← Lib.byteCells_append] at q1
          have q3' : Fr (fun k => k = bb ∨ some k = bufv'.ownBlock) wr w' := ⟨q3.os, q3.tape, q3.output, q3.size, q3.block⟩
          exact ⟨rfl, ⟨q3'.cell c0 hbwk, Lib.frozen_of_heap (q3'.heap hbw hbwk) 0⟩, q3'.block bw (Lib.lt_of_heap hbw) hbwk, q3'.block fb (Lib.lt_of_heap hf) hfbk, v', q1, q2, q3'⟩
        go_wp2_with (first
          | (go_at_call 48; refine (available bw fb bb bufv' l1' [] wr hB).mono ?_; rintro e w' ⟨rfl, n, rfl⟩)
          | (go_at_call 49; refine (buffered bw fb bb bufv' l1' [] _ (hB.drewN _)).mono ?_; rintro e w' ⟨rfl, rfl⟩)
          | (go_at_call 83; refine (hW _).mono ?_; rintro e W1 ⟨rfl, ⟨d0, e0⟩, hh1, hh2, v', q1, q2, q3⟩; refine Hid.out ?_))
        refine Lib.hid ?_
        clear c0 c1 c2 c3 f0 hn1' hm1' hta hW
        have hB' := hB
        clear hB
        go_wp2
        go_roundg 0
        case measure => exact HK.out
        case rel =>
          have hsf : Fr (fun k => k = bw) W1 (W1.setCell ⟨bw, 0, none⟩ .nilIface) := (Fr.refl (fun k => k = bw) W1).setCell (p := ⟨bw, 0, none⟩) (Or.inl rfl) _
          have hjs : j + t.size = s.size := Hjt.out
          have hv' : v'.ownBlock ≠ some fb := by
            rcases q2 with e | ⟨k, e, hk'⟩
            · rw [e]; exact hB'.hne
            · rw [e]; intro e'; cases e'; have := Lib.lt_of_heap hf; omega
          refine ⟨_, j + t.size, v', l1' ++ t.data.toList, [], ?_, ?_, Or.inl ⟨rfl, ?_⟩, rfl, rfl, by go_num, ⟨?_, ⟨cur, ?_, hcs, htk⟩, Nat.zero_le _, ?_, hv'⟩, ?_, ?_, ?_⟩
          · have : ByteArray.empty.size = 0 := rfl
            omega
          · rw [List.drop_eq_nil_of_le (by rw [← Lib.size_eq]; omega)]; rfl
          · rfl
          · exact Lib.heap_setCell_same (i := 0) (hh1.trans hbw) _
          · exact hsf.heap (hh2.trans hf) hfbw
          · obtain ⟨⟨lr, p1⟩, p2, p3⟩ := q1
            refine ⟨⟨lr, hsf.heap p1 (Ne.symm hbwb)⟩, hsf.owns p2 ?_, p3⟩
            intro k hk' e
            obtain ⟨c, hc⟩ := own_tag p2 hk'
            exact tag_ne hc (hh1.trans hbw) (by decide) e
          · have hl := Hl.out
            rw [List.append_nil] at hl
            rw [List.append_nil, hl, Htl.out, List.append_assoc _ (s.data.toList.take j), List.take_append_drop, List.take_of_length_le (by rw [← Lib.size_eq]; omega)]
          · exact hnew.trans q2 hfr.size
          · refine (hfr.trans q3 ?_).setCell (p := ⟨bw, 0, none⟩) (Or.inl (Or.inl rfl)) _
            rintro k (rfl | hk)
            · exact Or.inl (Or.inr (Or.inl rfl))
            · rcases hnew with e | ⟨k', e, hk'⟩
              · exact Or.inl (Or.inr (Or.inr (Or.inr (by rw [← e]; exact hk))))
              · rw [e] at hk; cases hk; exact Or.inr hk'
      · have HK : Hid (gk = 2) := hk.elim id (fun e => absurd e.2 hemp)
        clear hk
        have hpos : 1 ≤ l2'.length := List.length_pos_iff.2 hemp
        have hb0 : ((l2'.length : Int) == 0) = false := by rw [beq_eq_false_iff_ne]; omega
        have hlim' : l1'.length + 4096 ≤ 140737488355328 := by
          have := congrArg List.length Hl.out
          simp only [List.length_append, List.length_take] at this
          omega
        obtain ⟨cur, hf, hcs, htk⟩ := hB.hfb
        by_cases hful : l2'.length = 4096
        · have Hf : Hid (l2'.length = 4096) := hful
          have hge : (4096 : Int) ≤ (l2'.length : Int) := by omega
          have hlt0 : (l2'.length : Int) ≤ 4096 := by omega
          have hsl := slice_full fb 0 4096 l2'.length hful
          clear hful
          have hcp : ∀ W, (Builtin.copy_ #[25, 9] 3 #[.slice (some ⟨fb, 0, none⟩) 0 0, .string t]).run Tryd.prog W = .ok (goInt 0) W := run_copy_zero fb t
          go_wp2_with (first
            | (go_at_call 48; refine (available bw fb bb bufv' l1' l2' wr hB).mono ?_; rintro e w' ⟨rfl, n, rfl⟩)
            | (go_at_call 49; refine (buffered bw fb bb bufv' l1' l2' _ (hB.drewN _)).mono ?_; rintro e w' ⟨rfl, rfl⟩))
          have hB0 := hB.drewN n
          have hfr0 := hfr.drewN n
          clear hB hfr c0 c1 c2 hf
          generalize wr.drewN n = W0 at *
          have c1 := hB0.c1; have c2 := hB0.c2; have f2 := hB0.f 2
          obtain ⟨hB1, hfr1⟩ := hB0.same
          have hfl := flush bw fb bb bufv' l1' _ _ hB1 hemp (by have := Hf.out; omega)
          go_region_held3 (fun w' => w'.cell? ⟨bw, 1, none⟩ = some (.slice (some ⟨fb, 0, none⟩) 4096 4096) ∧ w'.cell? ⟨bw, 2, none⟩ = some (.int .i64 (l2'.length : Int))) (go_keep)
            (first | (go_at_call 82; fail))
          go_wp2_with (go_at_call 40; refine hfl.mono ?_; rintro e W2 ⟨rfl, bufv2, hB2, hnew2, hfr2⟩; refine Hid.out ?_)
          refine Lib.hid ?_
          clear hfl hB1 hcp c1 c2 f2
          go_wp2
          go_roundg 1
          case measure => rw [HK.out]; omega
          case rel =>
            refine ⟨_, j, bufv2, _, [], ?_, ?_, Or.inr ⟨rfl, Or.inr ⟨rfl, rfl⟩⟩, rfl, rfl, rfl, hB2, ?_, ?_, ?_⟩
            · exact Hjt.out
            · exact Htl.out
            · rw [List.append_nil]; exact Hl.out
            · exact hnew.trans (orMap hnew2 (fun ⟨k, q1, q2⟩ => ⟨k, q1, Nat.le_trans hfr1.size q2⟩)) hfr0.size
            · refine (hfr0.trans hfr1 ?_).trans hfr2 ?_
              · rintro k rfl
                exact Or.inl (Or.inl rfl)
              · rintro k (rfl | rfl | hk)
                · exact Or.inl (Or.inl rfl)
                · exact Or.inl (Or.inr (Or.inl rfl))
                · rcases hnew with e | ⟨k', e, hk'⟩
                  · exact Or.inl (Or.inr (Or.inr (Or.inr (by rw [← e]; exact hk))))
                  · rw [e] at hk; cases hk; exact Or.inr hk'
        · have hrl : (t.data.toList.take (4096 - l2'.length)).length = 4096 - l2'.length := by rw [List.length_take, ← Lib.size_eq]; omega
          have hsl := slice_l0 fb 4096 4096 l2'.length (by omega) (by omega)
          have hcp : ∀ (W : World), W.heap = wr.heap → (Builtin.copy_ #[25, 9] 3 #[.slice (some ⟨fb, l2'.length, none⟩) (4096 - l2'.length) (4096 - l2'.length), .string t]).run Tryd.prog W = .ok (goInt (4096 - l2'.length : Nat)) (W.setRow fb (cur.toList.take l2'.length ++ Lib.byteCells (t.data.toList.take (4096 - l2'.length)) ++ cur.toList.drop (l2'.length + (4096 - l2'.length))).toArray) := by
            intro W hW
            exact run_copy_string_part (P := Tryd.prog) W 25 9 3 5 fb l2'.length (4096 - l2'.length) (4096 - l2'.length) t cur 5 Tryd.underlying25 infoSize (by rw [hW]; exact hf) (by omega) (by omega)
          go_wp2_with (first
            | (go_at_call 48; refine (available bw fb bb bufv' l1' l2' wr hB).mono ?_; rintro e w' ⟨rfl, n, rfl⟩)
            | (go_at_call 49; refine (buffered bw fb bb bufv' l1' l2' _ (hB.drewN _)).mono ?_; rintro e w' ⟨rfl, rfl⟩))
          have hcp1 := hcp (wr.drewN n).drew rfl
          have hB0 := hB.drewN n
          have hfr0 := hfr.drewN n
          have hf0 : (wr.drewN n).heap[fb]? = some (.cells cur 5 (0, 0)) := hf
          clear hcp hB hfr c0 c1 c2 hf
          generalize wr.drewN n = W0 at *
          have c1 := hB0.c1; have c2 := hB0.c2
          have hfbw : bw ≠ fb := tag_ne hB0.hbw hf0 (by decide)
          have hst : ∀ cs, Fr (fun k => k = fb) W0 (W0.drew.setRow fb cs) := fun cs => ((Fr.refl (fun k => k = fb) W0).drew).setRow (Or.inl rfl) cs
          have d1 : ∀ cs, (W0.drew.setRow fb cs).cell? ⟨bw, 1, none⟩ = some (.slice (some ⟨fb, 0, none⟩) 4096 4096) := fun cs => (hst cs).cell c1 hfbw
          have d2 : ∀ cs, (W0.drew.setRow fb cs).cell? ⟨bw, 2, none⟩ = some (.int .i64 (l2'.length : Int)) := fun cs => (hst cs).cell c2 hfbw
          have e2 : ∀ cs, (W0.drew.setRow fb cs).frozen? ⟨bw, 2, none⟩ = false := fun cs => Lib.frozen_of_heap ((hst cs).heap hB0.hbw hfbw) 2
          have hlt : (l2'.length : Int) < 4096 := by omega
          have hlt0 : (0 : Int) ≤ (l2'.length : Int) := by omega
          obtain ⟨hB1, hfr1⟩ := hB0.put hf0 hcs _ (4096 - l2'.length) 4096 hrl (by omega) (by omega)
          have hfl := flush bw fb bb bufv' l1' _ _ hB1 (by intro e; exact hemp (List.append_eq_nil_iff.1 e).1) (by rw [List.length_append, hrl]; omega)
          have HR : Hid ((t.data.toList.take (4096 - l2'.length)).length = 4096 - l2'.length) := hrl
          clear hrl
          go_region_held3 (fun w' => w'.cell? ⟨bw, 1, none⟩ = some (.slice (some ⟨fb, 0, none⟩) 4096 4096) ∧ w'.cell? ⟨bw, 2, none⟩ = some (.int .i64 (l2'.length : Int))) (go_keep)
            (first | (go_at_call 82; fail))
          go_wp2_with (go_at_call 40; refine hfl.mono ?_; rintro e W2 ⟨rfl, bufv2, hB2, hnew2, hfr2⟩; refine Hid.out ?_)
          refine Lib.hid ?_
          clear hfl hB1 hcp1 d1 d2 e2 c1 c2 hst
          go_wp2
          go_roundg 1
          case measure => rw [HK.out]; omega
          case rel =>
            refine ⟨_, j + (4096 - l2'.length), bufv2, _, [], ?_, ?_, Or.inr ⟨rfl, Or.inr ⟨rfl, rfl⟩⟩, rfl, rfl, by go_num, hB2, ?_, ?_, ?_⟩
            · rw [Lib.size_eq, Lib.extract_to_end, List.length_drop, ← Lib.size_eq]; have := Hjt.out; omega
            · rw [Lib.extract_to_end, Htl.out, List.drop_drop]
            · rw [List.append_nil, ← List.append_assoc, Hl.out, Htl.out, List.append_assoc _ (s.data.toList.take j), ← List.take_add]
            · exact hnew.trans (orMap hnew2 (fun ⟨k, q1, q2⟩ => ⟨k, q1, Nat.le_trans hfr1.size q2⟩)) hfr0.size
            · refine (hfr0.trans hfr1 ?_).trans hfr2 ?_
              · rintro k (rfl | rfl)
                · exact Or.inl (Or.inl rfl)
                · exact Or.inl (Or.inr (Or.inr (Or.inl rfl)))
              · rintro k (rfl | rfl | hk)
                · exact Or.inl (Or.inl rfl)
                · exact Or.inl (Or.inr (Or.inl rfl))
                · rcases hnew with e | ⟨k', e, hk'⟩
                  · exact Or.inl (Or.inr (Or.inr (Or.inr (by rw [← e]; exact hk))))
                  · rw [e] at hk; cases hk; exact Or.inr hk'
end Go.Proofs.Qxb6614442aDoor
