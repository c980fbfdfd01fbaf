import Derived.Test.Qxb6614442aDoorBufW
import Derived.Lib.AppendStr
import Derived.Lib.ItoaWalk
import Derived.Lib.ItoaMem
import Derived.Lib.AppendIntMem
import Derived.OwnWalk
import Derived.CellFam
namespace Go.Proofs.Qxb6614442aDoor
open Go.RowKit

theorem run_append_x (w : World) (ty : TypeId) (v : Value) (n : Nat) (xs : List Value) (hown : w.ownsRow 0 5 1 v n xs)
    (a : Addr) (m c : Nat) (news : List Value) (hl : news.length = m) (hnews : ∀ j u, news[j]? = some u → w.cell? (a.add j) = some u) (h1 : ∀ u ∈ news, u.oneCell' = true)
    (hbytes : n + m ≤ 140737488355328) :
    ∃ v' w', (Builtin.append_ #[25, 25] ty #[v, .slice (some a) m c]).run Tryd.prog w = .ok v' w' ∧ w'.ownsRow 0 5 1 v' (n + m) (xs ++ news) ∧ w.grownBy w' v.ownBlock ∧ RowNew w v v' := by
  obtain ⟨i, hi, hz0, hz1, hz2⟩ := info_parts infoByte
  have hm63 : n + m ≤ maxLen := by unfold maxLen; omega
  obtain ⟨v', w', hr, h2, h3, -⟩ := run_append_own (P := Tryd.prog) w 0 25 ty 5 i (.int .u8 0) 1 1 Tryd.underlying25 hi hz0 hz1 hz2 rfl (by decide) v n xs hown a m c news (by omega) hnews h1 hm63 (by omega) (Nat.zero_le _)
  refine ⟨v', w', hr, h2, h3, ?_⟩
  rcases hown.2 with ⟨rfl, rfl⟩ | ⟨g, cap, cur, rfl, hbg, hg, hnc, hcm, hcs, htake⟩
  · have hx : xs = [] := List.eq_nil_of_length_eq_zero (by simpa using hown.1)
    subst hx
    obtain ⟨v2, w2, hr2, h22, -, -⟩ := run_append_own (P := Tryd.prog) w w.heap.size 25 ty 5 i (.int .u8 0) 1 1 Tryd.underlying25 hi hz0 hz1 hz2 rfl (by decide) (.slice none 0 0) 0 [] (World.ownsRow_nil _ _ _ _) a m c news (by omega) hnews h1 hm63 (by omega) (Nat.le_refl _)
    rw [hr] at hr2
    injection hr2 with e1 e2
    subst e1
    cases hv : v'.ownBlock with
    | none => exact Or.inl (hv.trans rfl)
    | some k => exact Or.inr ⟨k, hv, (h22.lt k hv).1⟩
  · by_cases hroom : n + m ≤ cap
    · have hr2 := run_append_room (P := Tryd.prog) w 25 ty 5 i Tryd.underlying25 hi g n cap cur hg a m c news (by rw [hz1]; omega) hnews h1 hroom (by rw [hz1, hl]; omega)
      rw [hr] at hr2
      injection hr2 with e1 e2
      exact Or.inl (by rw [e1]; rfl)
    · have holds : ∀ j u, xs[j]? = some u → w.cell? ((⟨g, 0, none⟩ : Addr).add j) = some u := hown.cells (g := g) rfl
      have hxl : xs.length = n := by simpa using hown.1
      have hr2 := run_append_grow (P := Tryd.prog) w 25 ty 5 i (.int .u8 0) Tryd.underlying25 hi hz0 ⟨g, 0, none⟩ n cap xs (by rw [hz1]; omega) holds a m c news (by rw [hz1]; omega) hnews (by omega) (by unfold maxLen at hm63; omega) (growslice_fits (by omega) (by rw [hz2]; omega))
      rw [hr] at hr2
      injection hr2 with e1 e2
      exact Or.inr ⟨w.heap.size, by rw [e1]; rfl, Nat.le_refl _⟩

theorem wpList_append_x {w : World} {ops : Array Oper} {rest : List Oper} {o : Oper} {a : Act} {Q : Exit → Act → World → Prop} (hgd : o.guard = none) (s x : Operand)
    (ho : o.op = .call { callee := .builtin .append, args := #[s, x], argTypes := #[25, 25] })
    (v : Value) (n : Nat) (xs : List Value) (hs : a.eval s = v) (hown : w.ownsRow 0 5 1 v n xs)
    (ad : Addr) (m c : Nat) (news : List Value) (hx : a.eval x = .slice (some ad) m c) (hl : news.length = m) (hnews : ∀ j u, news[j]? = some u → w.cell? (ad.add j) = some u) (h1 : ∀ u ∈ news, u.oneCell' = true)
    (hbytes : n + m ≤ 140737488355328)
    (h : ∀ v' w', w'.ownsRow 0 5 1 v' (n + m) (xs ++ news) → w.grownBy w' v.ownBlock → RowNew w v v' → wpList Tryd.prog ops Q rest (a.put o.dst v') w') : wpList Tryd.prog ops Q (o :: rest) a w := by
  refine wpList_plain hgd fun K hK => ?_
  obtain ⟨v', w', hr, h2, h3, h4⟩ := run_append_x w o.type v n xs hown ad m c news hl hnews h1 hbytes
  unfold Oper.wp execOp
  simp only [ho, resolve, invoke, builtin, Sem.run_bind, Sem.run_pure, Result.andThen_ok, List.map_toArray, List.map_cons, List.map_nil, hs, hx, hr]
  exact hK _ _ (h v' w' h2 h3 h4)

theorem run_append_x_string (w : World) (ty : TypeId) (v : Value) (n : Nat) (xs : List Value) (hown : w.ownsRow 0 5 1 v n xs) (s : ByteArray)
    (hbytes : n + s.size ≤ 140737488355328) :
    ∃ v' w', (Builtin.append_ #[25, 9] ty #[v, .string s]).run Tryd.prog w = .ok v' w' ∧ w'.ownsRow 0 5 1 v' (n + s.size) (xs ++ Lib.byteCells s.data.toList) ∧ w.grownBy w' v.ownBlock ∧ RowNew w v v' := by
  obtain ⟨i, hi, hz0, hz1, hz2⟩ := info_parts infoByte
  have hm63 : n + s.size ≤ maxLen := by unfold maxLen; omega
  obtain ⟨v', w', hr, h2, h3, -⟩ := Lib.run_append_own_string (P := Tryd.prog) w 0 25 9 ty 5 i Tryd.underlying25 Tryd.underlying9 hi hz0 hz1 hz2 v n xs hown s hm63 hbytes (Nat.zero_le _)
  refine ⟨v', w', hr, h2, h3, ?_⟩
  rcases hown.2 with ⟨rfl, rfl⟩ | ⟨g, cap, cur, rfl, hbg, hg, hnc, hcm, hcs, htake⟩
  · have hx : xs = [] := List.eq_nil_of_length_eq_zero (by simpa using hown.1)
    subst hx
    obtain ⟨v2, w2, hr2, h22, -, -⟩ := Lib.run_append_own_string (P := Tryd.prog) w w.heap.size 25 9 ty 5 i Tryd.underlying25 Tryd.underlying9 hi hz0 hz1 hz2 (.slice none 0 0) 0 [] (World.ownsRow_nil _ _ _ _) s hm63 hbytes (Nat.le_refl _)
    rw [hr] at hr2
    injection hr2 with e1 e2
    subst e1
    cases hv : v'.ownBlock with
    | none => exact Or.inl (hv.trans rfl)
    | some k => exact Or.inr ⟨k, hv, (h22.lt k hv).1⟩
  · by_cases hroom : n + s.size ≤ cap
    · have hr2 := Lib.run_append_room_string (P := Tryd.prog) w 25 9 ty 5 i Tryd.underlying25 Tryd.underlying9 hi hz1 g n cap cur hg s hroom (by omega)
      rw [hr] at hr2
      injection hr2 with e1 e2
      exact Or.inl (by rw [e1]; rfl)
    · have holds : ∀ j u, xs[j]? = some u → w.cell? ((⟨g, 0, none⟩ : Addr).add j) = some u := hown.cells (g := g) rfl
      have hxl : xs.length = n := by simpa using hown.1
      have hr2 := Lib.run_append_grow_string (P := Tryd.prog) w 25 9 ty 5 i (.int .u8 0) Tryd.underlying25 Tryd.underlying9 hi hz0 ⟨g, 0, none⟩ n cap xs (by rw [hz1]; omega) holds s (by omega) (by unfold maxLen at hm63; omega) (by rw [hz2]; exact growslice_fits (by omega) (by omega))
      rw [hr] at hr2
      injection hr2 with e1 e2
      exact Or.inr ⟨w.heap.size, by rw [e1]; rfl, Nat.le_refl _⟩

theorem wpList_append_x_string {w : World} {ops : Array Oper} {rest : List Oper} {o : Oper} {a : Act} {Q : Exit → Act → World → Prop} (hgd : o.guard = none) (sl x : Operand)
    (ho : o.op = .call { callee := .builtin .append, args := #[sl, x], argTypes := #[25, 9] })
    (v : Value) (n : Nat) (xs : List Value) (hs : a.eval sl = v) (hown : w.ownsRow 0 5 1 v n xs) (s : ByteArray) (hx : a.eval x = .string s)
    (hbytes : n + s.size ≤ 140737488355328)
    (h : ∀ v' w', w'.ownsRow 0 5 1 v' (n + s.size) (xs ++ Lib.byteCells s.data.toList) → w.grownBy w' v.ownBlock → RowNew w v v' → wpList Tryd.prog ops Q rest (a.put o.dst v') w') : wpList Tryd.prog ops Q (o :: rest) a w := by
  refine wpList_plain hgd fun K hK => ?_
  obtain ⟨v', w', hr, h2, h3, h4⟩ := run_append_x_string w o.type v n xs hown s hbytes
  unfold Oper.wp execOp
  simp only [ho, resolve, invoke, builtin, Sem.run_bind, Sem.run_pure, Result.andThen_ok, List.map_toArray, List.map_cons, List.map_nil, hs, hx, hr]
  exact hK _ _ (h v' w' h2 h3 h4)

set_option maxHeartbeats 6400000 in
set_option maxRecDepth 100000 in
theorem appendUint_small (n u : Nat) (hu : u < 100) (sv : Value) (xs : List Value) (w : World) (hown : w.ownsRow 0 5 1 sv n xs) (hlim : n + 20 ≤ 140737488355328) :
    Calls Tryd.prog 51 #[sv, .int .u64 u, .int .i64 10] w fun e w' => ∃ v', e = .returned v' ∧ w'.ownsRow 0 5 1 v' (n + (Lib.decDigits u).length) (xs ++ Lib.byteCells (Lib.decDigits u)) ∧ RowNew w sv v' ∧ Fr (fun k => some k = sv.ownBlock) w w' := by
  have hlen : (Lib.decDigits u).length ≤ 20 := by
    rw [Lib.decDigits_length]
    by_cases h10 : u < 10
    · rw [Lib.nDigits_small h10]; omega
    · rw [Lib.nDigits_big h10, Lib.nDigits_small (show u / 10 < 10 by omega)]; omega
  have hsz : (⟨(Lib.decDigits u).toArray⟩ : ByteArray).size = (Lib.decDigits u).length := by simp [ByteArray.size]
  go_enter Tryd.func51, Tryd.ntmps51
  go_wp2_with (first
    | (go_at_call 52; refine (Tryd.internal_strconv_small u hu _).mono ?_; rintro e w' ⟨rfl, rfl⟩)
    | (at_builtin; refine wpList_append_x_string rfl _ _ rfl _ _ _ rfl hown ⟨(Lib.decDigits u).toArray⟩ rfl (by rw [hsz]; omega) ?_))
  intro v' w1 hown' hgrow hnew
  go_wp2
  go_ret
  refine ⟨v', rfl, ?_, hnew, Fr.grown hgrow⟩
  exact hown'

def Tab (w : World) : Prop := Lib.TabIs Tryd.prog w tabName .u64 Lib.pow10Tab

theorem gTab : Tryd.prog.globalNamed tabName = some 1 := by kernel_rfl

theorem Tab.of_block {w w' : World} (h : Tab w) (e : w'.heap[1]? = w.heap[1]?) : Tab w' := by
  unfold Tab Lib.TabIs at *
  rw [← h]
  unfold World.var?
  simp only [gTab, Option.bind_some, e]

theorem Tab.lt {w : World} (h : Tab w) : 1 < w.heap.size := by
  have := Lib.TabIs.cell h gTab 0 (by decide)
  exact World.block_lt_of_cell? w _ this

theorem Tab.fr {S : Nat → Prop} {w w' : World} (h : Tab w) (f : Fr S w w') (hn : ¬ S 1) : Tab w' := h.of_block (f.block 1 h.lt hn)

set_option maxHeartbeats 12800000 in
set_option maxRecDepth 100000 in
theorem appendUint_big (n u : Nat) (hu : 100 ≤ u) (hu64 : u < 18446744073709551616) (sv : Value) (xs : List Value) (w : World) (hown : w.ownsRow 0 5 1 sv n xs) (hlim : n + 20 ≤ 140737488355328) (htab : Tab w) :
    Calls Tryd.prog 51 #[sv, .int .u64 u, .int .i64 10] w fun e w' => ∃ v', e = .returned v' ∧ w'.ownsRow 0 5 1 v' (n + (Lib.decDigits u).length) (xs ++ Lib.byteCells (Lib.decDigits u)) ∧ RowNew w sv v' ∧ Fr (fun k => some k = sv.ownBlock) w w' := by
  have hu1 : 1 ≤ u := by omega
  have hnd20 : Lib.nDigits u ≤ 20 := by have := Lib.numDigits_eq u hu1 hu64; split at this <;> omega
  have hal : Tryd.prog.arrayLen 121 = 24 := by simp [Program.arrayLen, Tryd.underlying121]
  have hsl : ∀ W, (Instr.sliceAt 121 (.pointer (some ⟨w.heap.size, 0, none⟩)) none (some (.int .i64 (Lib.nDigits u : Int))) none).run Tryd.prog W = .ok (.slice (some ⟨w.heap.size, 0, none⟩) (Lib.nDigits u) 24) W := fun W => by
    rw [run_sliceAt_array_h W 121 ⟨w.heap.size, 0, none⟩ (by simp [Program.arrayLen, Program.elem, Tryd.underlying121]) .i64 (Lib.nDigits u : Int) (by omega) (by rw [hal]; omega)]
    go_simp
  have hH0 := Lib.holds_zero0 w 121 (Lib.nDigits u) (by omega)
  have hfmt := Tryd.internal_strconv_formatBase10 w.heap.size 0 24 u (Array.replicate (Lib.nDigits u) 0) (w.alloc (.cells Lib.zeros24 121)) hH0 (by rw [Array.size_replicate]; exact Lib.lt_pow_nDigits u) hu64 (by rw [Array.size_replicate]; omega)
  rw [Array.size_replicate] at hfmt
  have HH0 := Lib.hid hH0
  have iu : (100 : Int) ≤ (u : Int) := by omega
  clear hH0 hal
  go_enter Tryd.func51, Tryd.ntmps51
  go_wp2_with (first
    | (go_at_call 53; refine (Tryd.internal_strconv_numDigits u hu1 hu64 _ (Lib.tabIs_alloc htab _)).mono ?_; rintro e w' ⟨rfl, rfl⟩))
  go_at_call 54
  refine hfmt.mono ?_
  rintro e w' ⟨rfl, k, v', dk, rfl, hF⟩
  have hcells : ∀ j u', (Lib.byteCells (Lib.decDigits u))[j]? = some u' → ((Go.Sort.putRow (fun (b : UInt8) => Value.int .u8 (b.toNat : Int)) (w.alloc (.cells Lib.zeros24 121)) w.heap.size 0 dk).drewN k).cell? ((⟨w.heap.size, 0, none⟩ : Addr).add j) = some u' := by
    intro j u' hj
    have hjl : j < (Lib.decDigits u).length := by
      have h5 := (List.getElem?_eq_some_iff.1 hj).1
      rwa [Lib.byteCells_length] at h5
    have e5 : (Lib.byteCells (Lib.decDigits u))[j]? = some (Value.int .u8 ((Lib.decDigits u)[j].toNat : Int)) := by simp [Lib.byteCells, hjl]
    rw [e5] at hj
    cases hj
    rw [Lib.row_is_numeral hF j hjl, Lib.add_plain, World.cell?_drewN]
    exact Go.Sort.cell?_putRow (fun (b : UInt8) => Value.int .u8 (b.toNat : Int)) _ w.heap.size 0 _ dk HH0.out (by rw [hF.size, Array.size_replicate]) j (by rw [hF.size]; rw [Lib.decDigits_length] at hjl; exact hjl)
  obtain ⟨os, eo⟩ := Lib.fin_at w (.cells Lib.zeros24 121) dk k 0
  have hown2 : ((Go.Sort.putRow (fun (b : UInt8) => Value.int .u8 (b.toNat : Int)) (w.alloc (.cells Lib.zeros24 121)) w.heap.size 0 dk).drewN k).ownsRow 0 5 1 sv n xs := by rw [eo]; exact Lib.ownsRow_grow hown k os
  have hnx2 : Below w.heap.size w ((Go.Sort.putRow (fun (b : UInt8) => Value.int .u8 (b.toNat : Int)) (w.alloc (.cells Lib.zeros24 121)) w.heap.size 0 dk).drewN k) := by rw [eo]; exact Lib.below_grow w.heap.size w (Nat.le_refl _) k os
  generalize (Go.Sort.putRow (fun (b : UInt8) => Value.int .u8 (b.toNat : Int)) (w.alloc (.cells Lib.zeros24 121)) w.heap.size 0 dk).drewN k = W2 at hcells hown2 hnx2 ⊢
  clear eo HH0 hfmt
  go_wp2_with (at_builtin; refine wpList_append_x rfl _ _ rfl _ _ _ rfl hown2 ⟨w.heap.size, 0, none⟩ (Lib.nDigits u) 24 (Lib.byteCells (Lib.decDigits u)) rfl ?c0 hcells ?c2 ?c4 ?_)
  case c0 => rw [Lib.byteCells_length, Lib.decDigits_length]
  case c2 => exact Lib.byteCells_one _
  case c4 => omega
  intro v2 w3 hown' hgrow hnew
  go_wp2
  go_ret
  refine ⟨v2, rfl, ?_, ?_, ?_⟩
  · rw [Lib.decDigits_length]; exact hown'
  · exact orMap hnew (fun ⟨k, h1, h2⟩ => ⟨k, h1, Nat.le_trans hnx2.size h2⟩)
  · exact ((Fr.of_below hnx2).mono (S' := fun k => some k = sv.ownBlock ∨ w.heap.size ≤ k) (fun k hk => Or.inr hk)).trans (Fr.grown hgrow) (fun i hi => Or.inl (Or.inl hi)) |> fun f => ⟨f.os, f.tape, f.output, f.size, fun k hk hn => f.block k hk (fun h => h.elim hn (fun h' => by omega))⟩

theorem appendUint (n u : Nat) (hu64 : u < 18446744073709551616) (sv : Value) (xs : List Value) (w : World) (hown : w.ownsRow 0 5 1 sv n xs) (hlim : n + 20 ≤ 140737488355328) (htab : Tab w) :
    Calls Tryd.prog 51 #[sv, .int .u64 u, .int .i64 10] w fun e w' => ∃ v', e = .returned v' ∧ w'.ownsRow 0 5 1 v' (n + (Lib.decDigits u).length) (xs ++ Lib.byteCells (Lib.decDigits u)) ∧ RowNew w sv v' ∧ Fr (fun k => some k = sv.ownBlock) w w' := by
  by_cases h : u < 100
  · exact appendUint_small n u h sv xs w hown hlim
  · exact appendUint_big n u (by omega) hu64 sv xs w hown hlim htab

theorem RowNew.trans {w w1 : World} {v v1 v2 : Value} (h : RowNew w v v1) (k : RowNew w1 v1 v2) (hs : w.heap.size ≤ w1.heap.size) : RowNew w v v2 := by
  rcases k with k | ⟨g, k1, k2⟩
  · rcases h with h | ⟨g, h1, h2⟩
    · exact Or.inl (k.trans h)
    · exact Or.inr ⟨g, k.trans h1, h2⟩
  · exact Or.inr ⟨g, k1, by omega⟩

theorem Fr.rows {w w1 w2 : World} {v v1 : Value} (h : Fr (fun k => some k = v.ownBlock) w w1) (hn : RowNew w v v1) (k : Fr (fun k => some k = v1.ownBlock) w1 w2) : Fr (fun k => some k = v.ownBlock) w w2 :=
  h.trans k (fun i hi => by
    rcases hn with e | ⟨g, e, hg⟩
    · exact Or.inl (by rw [← e]; exact hi)
    · rw [e] at hi; cases hi; exact Or.inr hg)

set_option maxHeartbeats 6400000 in
set_option maxRecDepth 100000 in
theorem appendInt_in (n : Nat) (i : Int) (h0 : -9223372036854775808 ≤ i) (h1 : i ≤ 9223372036854775807) (sv : Value) (xs : List Value) (w : World) (hown : w.ownsRow 0 5 1 sv n xs) (hlim : n + 21 ≤ 140737488355328)
    (htab : Tab w) (hsv : sv.ownBlock ≠ some 1) :
    Calls Tryd.prog 50 #[sv, .int .i64 i, .int .i64 10] w fun e w' => ∃ v', e = .returned v' ∧ w'.ownsRow 0 5 1 v' (n + (Lib.itoa i).length) (xs ++ Lib.byteCells (Lib.itoa i)) ∧ RowNew w sv v' ∧ Fr (fun k => some k = sv.ownBlock) w w' := by
  by_cases hneg : i < 0
  · obtain ⟨u, rfl⟩ : ∃ u : Nat, i = -(u : Int) := ⟨i.natAbs, by omega⟩
    have hu1 : 1 ≤ u := by omega
    have hu64 : u < 18446744073709551616 := by omega
    have hwr : IntKind.u64.wrap (-IntKind.u64.wrap (-(u : Int))) = (u : Int) := by rw [IntKind.wrap_u64, IntKind.wrap_u64]; omega
    rw [Lib.itoa_neg u hu1]
    go_enter Tryd.func50, Tryd.ntmps50
    go_wp2_with (at_builtin; refine wpList_append_x rfl _ _ rfl _ _ _ rfl (hown.alloc _) ⟨w.heap.size, 0, none⟩ 1 1 [Value.int .u8 45] rfl rfl (by intro j u' hj; match j, hj with | 0, hj => simp at hj; subst hj; simp [Addr.add]) (by intro u' hu'; simp at hu'; subst hu'; rfl) (by omega) ?_)
    intro v1 w1 hown1 hgrow hnew
    have hfr1 : Fr (fun k => some k = sv.ownBlock) w w1 := ((Fr.refl _ w).alloc _).trans (Fr.grown hgrow) (fun i hi => Or.inl hi)
    have hnew1 : RowNew w sv v1 := orMap hnew (fun ⟨k, q1, q2⟩ => ⟨k, q1, by simp at q2; omega⟩)
    have htab1 : Tab w1 := htab.fr hfr1 (fun e => hsv e.symm)
    clear hgrow hnew
    go_wp2_with (go_at_call 51; refine (appendUint (n + 1) u hu64 v1 _ w1 hown1 (by omega) htab1).mono ?_; rintro e w2 ⟨v2, rfl, hown2, hnew2, hfr2⟩)
    go_wp2
    go_ret
    refine ⟨v2, rfl, ?_, hnew1.trans hnew2 hfr1.size, hfr1.rows hnew1 hfr2⟩
    have e1 : n + ((Lib.decDigits u).length + 1) = n + 1 + (Lib.decDigits u).length := by omega
    have e2 : xs ++ Lib.byteCells (45 :: Lib.decDigits u) = xs ++ [Value.int .u8 45] ++ Lib.byteCells (Lib.decDigits u) := by simp [Lib.byteCells]
    rw [e1, e2]
    exact hown2
  · obtain ⟨u, rfl⟩ : ∃ u : Nat, i = u := ⟨i.toNat, by omega⟩
    have hu64 : u < 18446744073709551616 := by omega
    rw [Lib.itoa_nonneg]
    go_enter Tryd.func50, Tryd.ntmps50
    go_wp2_with (go_at_call 51; refine (appendUint n u hu64 sv xs w hown (by omega) htab).mono ?_; rintro e w2 ⟨v2, rfl, hown2, hnew2, hfr2⟩)
    go_wp2
    first | go_ret | go_ret2
    exact ⟨v2, rfl, hown2, hnew2, hfr2⟩

set_option maxRecDepth 100000 in
theorem appendInt (n : Nat) (i : Int) (h0 : -9223372036854775808 ≤ i) (h1 : i ≤ 9223372036854775807) (sv : Value) (xs : List Value) (w : World) (hown : w.ownsRow 0 5 1 sv n xs) (hlim : n + 21 ≤ 140737488355328)
    (htab : Tab w) (hsv : sv.ownBlock ≠ some 1) :
    Calls Tryd.prog 46 #[sv, .int .i64 i, .int .i64 10] w fun e w' => ∃ v', e = .returned v' ∧ w'.ownsRow 0 5 1 v' (n + (Lib.itoa i).length) (xs ++ Lib.byteCells (Lib.itoa i)) ∧ RowNew w sv v' ∧ Fr (fun k => some k = sv.ownBlock) w w' := by
  go_enter Tryd.func46, Tryd.ntmps46
  go_wp2_with (go_at_call 50; refine (appendInt_in n i h0 h1 sv xs w hown hlim htab hsv).mono ?_; rintro e w2 ⟨v2, rfl, hown2, hnew2, hfr2⟩)
  go_wp2
  go_ret
  exact ⟨v2, rfl, hown2, hnew2, hfr2⟩
end Go.Proofs.Qxb6614442aDoor
