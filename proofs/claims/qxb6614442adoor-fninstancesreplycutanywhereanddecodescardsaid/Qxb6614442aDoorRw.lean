import Derived.Test.Qxb6614442aDoorWs
import Derived.Lib.ItoaLen
namespace Go.Proofs.Qxb6614442aDoor
open Go.RowKit

/-- Where a resp.Writer and all that it stands on lie. -/
structure St where
  rw : Nat
  bw : Nat
  fb : Nat
  bb : Nat
  numv : Value
  bufv : Value

def St.S (s : St) : Nat → Prop := fun k => k = s.rw ∨ k = s.bw ∨ k = s.fb ∨ k = s.bb ∨ some k = s.numv.ownBlock ∨ some k = s.bufv.ownBlock

/-- The writer s has been handed the bytes l. -/
structure St.Is (s : St) (l : List UInt8) (w : World) : Prop where
  hrw : ∃ pr, w.heap[s.rw]? = some (.cells #[.pointer (some ⟨s.bw, 0, none⟩), s.numv, .int .i64 pr] 101 (0, 0))
  hB : ∃ l1 l2, l1 ++ l2 = l ∧ Bw s.bw s.fb s.bb s.bufv l1 l2 w
  hown : ∃ n xs, w.ownsRow 0 5 1 s.numv n xs
  hnf : s.numv.ownBlock ≠ some s.fb
  hnb : ∀ k, s.numv.ownBlock = some k → s.bufv.ownBlock ≠ some k
  tab : Tab w
  lo : ∀ k, s.S k → 2 ≤ k

def St.Next (s s' : St) (w : World) : Prop := s'.rw = s.rw ∧ s'.bw = s.bw ∧ s'.bb = s.bb ∧ ∀ k, s'.S k → s.S k ∨ w.heap.size ≤ k

def Wrote (s : St) (l : List UInt8) (w : World) (e : Ending) (w' : World) : Prop := e = .returned (.tuple #[]) ∧ ∃ s' : St, s.Next s' w ∧ s'.Is l w' ∧ Fr s.S w w'

theorem slice_zero (g n cap : Nat) (W : World) : (Instr.slice 25 (.slice (some ⟨g, 0, none⟩) n cap) none (some (.int .i64 0)) none).run Tryd.prog W = .ok (.slice (some ⟨g, 0, none⟩) 0 cap) W := by
  rw [run_slice_h W 25 _ _ _ (by kernel_rfl) .i64 0 (by omega) (by omega)]
  simp [sliced, size25, Lib.addr_add]
theorem slice_zero_nil (W : World) : (Instr.slice 25 (.slice none 0 0) none (some (.int .i64 0)) none).run Tryd.prog W = .ok (.slice none 0 0) W := by
  rw [run_slice_h W 25 _ _ _ (by kernel_rfl) .i64 0 (by omega) (by omega)]
  simp [sliced, size25]

/-- In the middle of header: the struct's cell holds c, the numeral so far is v. -/
structure Mid (rw bw fb bb : Nat) (c v bufv : Value) (l1 l2 : List UInt8) (n : Nat) (xs : List Value) (pr : Int) (w : World) : Prop where
  hrw : w.heap[rw]? = some (.cells #[.pointer (some ⟨bw, 0, none⟩), c, .int .i64 pr] 101 (0, 0))
  hB : Bw bw fb bb bufv l1 l2 w
  hown : w.ownsRow 0 5 1 v n xs
  hnf : v.ownBlock ≠ some fb
  hnb : ∀ k, v.ownBlock = some k → bufv.ownBlock ≠ some k
  tab : Tab w
  lo : 2 ≤ rw ∧ 2 ≤ bw ∧ 2 ≤ fb ∧ 2 ≤ bb
  lov : ∀ k, v.ownBlock = some k → 2 ≤ k
  lob : ∀ k, bufv.ownBlock = some k → 2 ≤ k

theorem Mid.ne_rw {rw bw fb bb : Nat} {c v bufv : Value} {l1 l2 : List UInt8} {n : Nat} {xs : List Value} {pr : Int} {w : World} (h : Mid rw bw fb bb c v bufv l1 l2 n xs pr w) : v.ownBlock ≠ some rw := by
  intro e
  obtain ⟨cur, hc⟩ := own_tag h.hown e
  exact tag_ne hc h.hrw (by decide) rfl

theorem Mid.ne_S {rw bw fb bb : Nat} {c v bufv : Value} {l1 l2 : List UInt8} {n : Nat} {xs : List Value} {pr : Int} {w : World} (h : Mid rw bw fb bb c v bufv l1 l2 n xs pr w) : ∀ k, Bw.S bw bb fb bufv k → ¬ some k = v.ownBlock := by
  intro k hk e
  obtain ⟨cur, hc⟩ := own_tag h.hown e.symm
  obtain ⟨⟨lr, p1⟩, p2, p3⟩ := h.hB.hbb
  rcases hk with rfl | rfl | rfl | hk
  · exact tag_ne hc h.hB.hbw (by decide) rfl
  · exact tag_ne hc p1 (by decide) rfl
  · exact h.hnf e.symm
  · exact h.hnb k e.symm hk.symm

theorem Mid.step {rw bw fb bb : Nat} {c v v' bufv : Value} {l1 l2 : List UInt8} {n n' : Nat} {xs xs' : List Value} {pr : Int} {w w' : World} (h : Mid rw bw fb bb c v bufv l1 l2 n xs pr w)
    (ho : w'.ownsRow 0 5 1 v' n' xs') (hn : RowNew w v v') (hf : Fr (fun k => some k = v.ownBlock) w w') : Mid rw bw fb bb c v' bufv l1 l2 n' xs' pr w' := by
  have hlt := h.tab.lt
  obtain ⟨cur, q1, q2, q3⟩ := h.hB.hfb
  refine ⟨hf.heap h.hrw (fun e => h.ne_rw e.symm), h.hB.kept hf h.ne_S, ho, ?_, ?_, h.tab.fr hf (fun e => by have := h.lov 1 e.symm; omega), h.lo, ?_, h.lob⟩
  · rcases hn with e | ⟨k, e, hk⟩
    · rw [e]; exact h.hnf
    · rw [e]; intro e'; cases e'; have := Lib.lt_of_heap q1; omega
  · intro k hk
    rcases hn with e | ⟨k', e, hk'⟩
    · exact h.hnb k (e.symm.trans hk)
    · have e2 : k' = k := Option.some.inj (e.symm.trans hk)
      intro hb
      have := (h.hB.hbb.2.1.lt k hb).2
      omega
  · intro k hk
    rcases hn with e | ⟨k', e, hk'⟩
    · exact h.lov k (e.symm.trans hk)
    · have e2 : k' = k := Option.some.inj (e.symm.trans hk)
      omega

theorem Mid.same {rw bw fb bb : Nat} {c v bufv : Value} {l1 l2 : List UInt8} {n : Nat} {xs : List Value} {pr : Int} {w w' : World} {S : Nat → Prop} (h : Mid rw bw fb bb c v bufv l1 l2 n xs pr w)
    (hf : Fr S w w') (hs : ∀ k, S k → w.heap.size ≤ k) : Mid rw bw fb bb c v bufv l1 l2 n xs pr w' := by
  have hk : ∀ k, k < w.heap.size → ¬ S k := fun k hk e => by have := hs k e; omega
  obtain ⟨cur, q1, q2, q3⟩ := h.hB.hfb
  obtain ⟨⟨lr, p1⟩, p2, p3⟩ := h.hB.hbb
  refine ⟨hf.heap h.hrw (hk _ (Lib.lt_of_heap h.hrw)), h.hB.kept hf ?_, hf.owns h.hown (fun k e => hk k (h.hown.lt k e).2), h.hnf, h.hnb, h.tab.fr hf (hk 1 h.tab.lt), h.lo, h.lov, h.lob⟩
  rintro k (rfl | rfl | rfl | e)
  · exact hk _ (Lib.lt_of_heap h.hB.hbw)
  · exact hk _ (Lib.lt_of_heap p1)
  · exact hk _ (Lib.lt_of_heap q1)
  · exact hk _ (p2.lt k e.symm).2

theorem Mid.set {rw bw fb bb : Nat} {c v bufv : Value} {l1 l2 : List UInt8} {n : Nat} {xs : List Value} {pr : Int} {w : World} (h : Mid rw bw fb bb c v bufv l1 l2 n xs pr w) :
    Mid rw bw fb bb v v bufv l1 l2 n xs pr (w.setCell ⟨rw, 1, none⟩ v) := by
  have hf : Fr (fun k => k = rw) w (w.setCell ⟨rw, 1, none⟩ v) := (Fr.refl (fun k => k = rw) w).setCell (p := ⟨rw, 1, none⟩) (Or.inl rfl) _
  obtain ⟨cur, q1, q2, q3⟩ := h.hB.hfb
  obtain ⟨⟨lr, p1⟩, p2, p3⟩ := h.hB.hbb
  refine ⟨Lib.heap_setCell_same (i := 1) h.hrw _, h.hB.kept hf ?_, hf.owns h.hown (fun k e e' => h.ne_rw (by rw [e, e'])), h.hnf, h.hnb, h.tab.fr hf (fun e => by have := h.lo.1; omega), h.lo, h.lov, h.lob⟩
  rintro k (rfl | rfl | rfl | e) e'
  · exact tag_ne h.hB.hbw h.hrw (by decide) e'
  · exact tag_ne p1 h.hrw (by decide) e'
  · exact tag_ne q1 h.hrw (by decide) e'
  · obtain ⟨c, hc⟩ := own_tag p2 e.symm; exact tag_ne hc h.hrw (by decide) e'

/-- An owned row of at least one cell is no nil. -/
theorem own_some {w : World} {v : Value} {n : Nat} {xs : List Value} (h : w.ownsRow 0 5 1 v n xs) (hn : 1 ≤ n) : ∃ g cap, v = .slice (some ⟨g, 0, none⟩) n cap ∧ n ≤ cap ∧ cap ≤ maxLen := by
  rcases h.2 with ⟨rfl, h0⟩ | ⟨g, cap, cur, rfl, -, -, h1, h2, -, -⟩
  · omega
  · exact ⟨g, cap, rfl, h1, h2⟩

/-- The numeral's row moves on; the rest is as it was. -/
theorem Fr.num {rw : Nat} {w wa wb : World} {v0 va : Value} (h : Fr (fun k => k = rw ∨ some k = v0.ownBlock) w wa) (hn : RowNew w v0 va) (k : Fr (fun k => some k = va.ownBlock) wa wb) : Fr (fun k => k = rw ∨ some k = v0.ownBlock) w wb :=
  h.trans k (fun i hi => by
    rcases hn with e | ⟨g, e, hg⟩
    · exact Or.inl (Or.inr (by rw [← e]; exact hi))
    · have e2 : i = g := Option.some.inj (hi.trans e)
      exact Or.inr (by omega))

theorem Mid.c0 {rw bw fb bb : Nat} {c v bufv : Value} {l1 l2 : List UInt8} {n : Nat} {xs : List Value} {pr : Int} {w : World} (h : Mid rw bw fb bb c v bufv l1 l2 n xs pr w) : w.cell? ⟨rw, 0, none⟩ = some (.pointer (some ⟨bw, 0, none⟩)) := by rw [Lib.cell_of_heap h.hrw]; rfl
theorem Mid.c1 {rw bw fb bb : Nat} {c v bufv : Value} {l1 l2 : List UInt8} {n : Nat} {xs : List Value} {pr : Int} {w : World} (h : Mid rw bw fb bb c v bufv l1 l2 n xs pr w) : w.cell? ⟨rw, 1, none⟩ = some c := by rw [Lib.cell_of_heap h.hrw]; rfl
theorem Mid.f {rw bw fb bb : Nat} {c v bufv : Value} {l1 l2 : List UInt8} {n : Nat} {xs : List Value} {pr : Int} {w : World} (h : Mid rw bw fb bb c v bufv l1 l2 n xs pr w) (j : Nat) : w.frozen? ⟨rw, j, none⟩ = false := Lib.frozen_of_heap h.hrw j

theorem Mid.rw_S {rw bw fb bb : Nat} {c v bufv : Value} {l1 l2 : List UInt8} {n : Nat} {xs : List Value} {pr : Int} {w : World} (h : Mid rw bw fb bb c v bufv l1 l2 n xs pr w) : ¬ Bw.S bw bb fb bufv rw := by
  obtain ⟨cur, p1, p2, p3⟩ := h.hB.hfb
  obtain ⟨⟨lr, t1⟩, t2, t3⟩ := h.hB.hbb
  rintro (e | e | e | e)
  · exact tag_ne h.hrw h.hB.hbw (by decide) e
  · exact tag_ne h.hrw t1 (by decide) e
  · exact tag_ne h.hrw p1 (by decide) e
  · obtain ⟨c, hc⟩ := own_tag t2 e.symm; exact tag_ne hc h.hrw (by decide) rfl

theorem Mid.wrote {rw bw fb bb : Nat} {c v bufv bufv' : Value} {l1 l2 l1' l2' : List UInt8} {n : Nat} {xs : List Value} {pr : Int} {w w' : World} (h : Mid rw bw fb bb c v bufv l1 l2 n xs pr w)
    (hB : Bw bw fb bb bufv' l1' l2' w') (hn : RowNew w bufv bufv') (hf : Fr (Bw.S bw bb fb bufv) w w') : Mid rw bw fb bb c v bufv' l1' l2' n xs pr w' := by
  have hlt := h.tab.lt
  refine ⟨hf.heap h.hrw h.rw_S, hB, hf.owns h.hown (fun k e e' => h.ne_S k e' e.symm), h.hnf, ?_, h.tab.fr hf ?_, h.lo, h.lov, ?_⟩
  · intro k hk
    rcases hn with e | ⟨k', e, hk'⟩
    · rw [e]; exact h.hnb k hk
    · rw [e]; intro e'
      have e2 : k' = k := Option.some.inj e'
      have := (h.hown.lt k hk).2
      omega
  · have hl := h.lo
    rintro (e | e | e | e)
    · omega
    · omega
    · omega
    · have := h.lob 1 e.symm; omega
  · intro k hk
    rcases hn with e | ⟨k', e, hk'⟩
    · exact h.lob k (e.symm.trans hk)
    · have e2 : k' = k := Option.some.inj (e.symm.trans hk)
      omega

set_option maxHeartbeats 1000000 in
set_option maxRecDepth 20000 in
theorem header_core (rw bw fb bb : Nat) (ao : Option Addr) (nn cap : Nat) (bufv : Value) (l1 l2 : List UInt8) (pr pre : Int) (c : UInt8) (i : Int) (w : World)
    (hM : Mid rw bw fb bb (.slice ao nn cap) (.slice ao 0 cap) bufv l1 l2 0 [] pr w) (hsl : ∀ W, (Instr.slice 25 (.slice ao nn cap) none (some (.int .i64 0)) none).run Tryd.prog W = .ok (.slice ao 0 cap) W)
    (hc : Hid (pre = (c.toNat : Int))) (h0 : -9223372036854775808 ≤ i) (h1 : i ≤ 9223372036854775807) (hlim : l1.length + l2.length ≤ 1073741824) :
    Calls Tryd.prog 44 #[.pointer (some ⟨rw, 0, none⟩), .int .u8 pre, .int .i64 i] w fun e w' => e = .returned (.tuple #[]) ∧ ∃ v3 bufv3 l1' l2' n xs, l1' ++ l2' = l1 ++ l2 ++ (c :: (Lib.itoa i ++ [13, 10])) ∧
      Mid rw bw fb bb v3 v3 bufv3 l1' l2' n xs pr w' ∧ RowNew w (.slice ao 0 cap) v3 ∧ RowNew w bufv bufv3 ∧ Fr (fun k => k = rw ∨ some k = (Value.slice ao 0 cap).ownBlock ∨ Bw.S bw bb fb bufv k) w w' := by
  have c0 : w.cell? ⟨rw, 0, none⟩ = some (.pointer (some ⟨bw, 0, none⟩)) := by rw [Lib.cell_of_heap hM.hrw]; rfl
  have c1 : w.cell? ⟨rw, 1, none⟩ = some (.slice ao nn cap) := by rw [Lib.cell_of_heap hM.hrw]; rfl
  have hown := hM.hown
  go_enter Tryd.func44, Tryd.ntmps44
  go_wp2_with (at_builtin; refine wpList_append_x rfl _ _ rfl _ _ _ rfl (hown.alloc _) ⟨w.heap.size, 0, none⟩ 1 1 [Value.int .u8 pre] rfl rfl (by intro j u' hj; match j, hj with | 0, hj => simp at hj; subst hj; simp [Addr.add]) (by intro u' hu'; simp at hu'; subst hu'; rfl) (by omega) ?_)
  intro v1 w1 hown1 hgrow1 hnew1
  have hM1 := (hM.same ((Fr.refl (fun _ => False) w).alloc _) (fun _ h => h.elim)).step hown1 hnew1 (Fr.grown hgrow1)
  have hF1 : Fr (fun k => k = rw ∨ some k = (Value.slice ao 0 cap).ownBlock) w w1 := Fr.num ((Fr.refl _ w).alloc _) (Or.inl rfl) (Fr.grown hgrow1)
  have hN1 : RowNew w (.slice ao 0 cap) v1 := orMap hnew1 (fun ⟨k, q1, q2⟩ => ⟨k, q1, by simp at q2; omega⟩)
  clear hgrow1 hnew1 hown c0 c1 hM hsl
  obtain ⟨g1, cap1, rfl, -, -⟩ := own_some hown1 (Nat.le_refl _)
  have hM1s := hM1.set
  have hF1s := hF1.setCell (p := ⟨rw, 1, none⟩) (Or.inl (Or.inl rfl)) (.slice (some ⟨g1, 0, none⟩) 1 cap1)
  have d1 := hM1.c1
  have e1 := hM1.f 1
  have hA := appendInt 1 i h0 h1 _ _ _ hM1s.hown (by omega) hM1s.tab (by intro e; have := hM1s.lov 1 e; omega)
  clear hM1 hF1 hown1
  go_wp2_with (go_at_call 46; refine hA.mono ?_; rintro e w2 ⟨v2, rfl, hown2, hnew2, hfr2⟩; refine Hid.out ?_)
  refine Lib.hid ?_
  clear hA d1 e1
  have hM2 := hM1s.step hown2 hnew2 hfr2
  have hF2 := Fr.num hF1s hN1 hfr2
  have hN2 := hN1.trans hnew2 hF1s.size
  clear hM1s hF1s hN1 hnew2 hfr2
  obtain ⟨g2, cap2, rfl, -, -⟩ := own_some hown2 (by omega)
  have hM2s := hM2.set
  have hF2s := hF2.setCell (p := ⟨rw, 1, none⟩) (Or.inl (Or.inl rfl)) (.slice (some ⟨g2, 0, none⟩) (1 + (Lib.itoa i).length) cap2)
  have d1 := hM2.c1
  have e1 := hM2.f 1
  have hil := Lib.itoa_length_le i h0 h1
  have hz2 : (w2.setCell ⟨rw, 1, none⟩ (.slice (some ⟨g2, 0, none⟩) (1 + (Lib.itoa i).length) cap2)).heap.size = w2.heap.size := by simp [World.setCell]
  have hnews : ∀ (j : Nat) u', ([Value.int .u8 13, Value.int .u8 10] : List Value)[j]? = some u' → ((w2.setCell ⟨rw, 1, none⟩ (.slice (some ⟨g2, 0, none⟩) (1 + (Lib.itoa i).length) cap2)).alloc (.cells #[.int .u8 13, .int .u8 10] 5)).cell? ((⟨w2.heap.size, 0, none⟩ : Addr).add j) = some u' := by
    intro j u' hj
    rw [Lib.addr_add, ← hz2, Lib.cell_of_heap (heap_alloc_new _ _)]
    simpa using hj
  clear hM2 hF2 hown2
  go_wp2_with (at_builtin; refine wpList_append_x rfl _ _ rfl _ _ _ rfl (hM2s.hown.alloc _) ⟨w2.heap.size, 0, none⟩ 2 2 [Value.int .u8 13, Value.int .u8 10] rfl rfl hnews (by intro u' hu'; simp at hu'; rcases hu' with rfl | rfl <;> rfl) (by omega) ?_)
  intro v3 w3 hown3 hgrow3 hnew3
  have hM3 := (hM2s.same ((Fr.refl (fun _ => False) _).alloc _) (fun _ h => h.elim)).step hown3 hnew3 (Fr.grown hgrow3)
  have hF3 := Fr.num (hF2s.alloc _) hN2 (Fr.grown hgrow3)
  have hN3 := hN2.trans (orMap hnew3 (fun ⟨k, q1, q2⟩ => ⟨k, q1, by simp at q2; omega⟩)) hF2s.size
  clear hgrow3 hnew3 hnews d1 e1 hM2s hF2s hN2
  obtain ⟨g3, cap3, rfl, hcc, hcm⟩ := own_some hown3 (by omega)
  have hM3s := hM3.set
  have hF3s := hF3.setCell (p := ⟨rw, 1, none⟩) (Or.inl (Or.inl rfl)) (.slice (some ⟨g3, 0, none⟩) (1 + (Lib.itoa i).length + 2) cap3)
  have d1 := hM3.c1
  have e1 := hM3.f 1
  clear hM3 hF3 hown3
  go_wp2
  have hxs : Value.int .u8 pre :: (Lib.byteCells (Lib.itoa i) ++ [Value.int .u8 13, Value.int .u8 10]) = Lib.byteCells (c :: (Lib.itoa i ++ [13, 10])) := by
    rw [hc.out]; simp [Lib.byteCells]
  have hplen : (c :: (Lib.itoa i ++ [13, 10])).length = 1 + (Lib.itoa i).length + 2 := by simp; omega
  rw [hxs] at hM3s
  clear d1 e1
  generalize w3.setCell ⟨rw, 1, none⟩ (.slice (some ⟨g3, 0, none⟩) (1 + (Lib.itoa i).length + 2) cap3) = W3 at *
  have hW := bw_Write bw fb bb bufv l1 l2 (c :: (Lib.itoa i ++ [13, 10])) g3 cap3 W3.drew hM3s.hB.drew (by rw [hplen]; exact hcc) hcm (by rw [hplen]; omega) (by rw [hplen]; omega)
    (by intro j x hx; have := hM3s.hown.cells (g := g3) rfl j x hx; rw [Lib.addr_add, Nat.zero_add] at this; exact this) (fun e => hM3s.ne_S g3 e rfl) (by rw [hplen]; omega)
  rw [hplen] at hW
  have hW2 : Calls Tryd.prog 47 #[.pointer (some ⟨bw, 0, none⟩), .slice (some ⟨g3, 0, none⟩) (1 + (Lib.itoa i).length + 2) cap3] W3.drew fun e w' => e = .returned (.tuple #[.int .i64 (1 + (Lib.itoa i).length + 2 : Nat), .nilIface]) ∧
      (w'.cell? ⟨rw, 0, none⟩ = some (.pointer (some ⟨bw, 0, none⟩)) ∧ w'.cell? ⟨rw, 1, none⟩ = some (.slice (some ⟨g3, 0, none⟩) (1 + (Lib.itoa i).length + 2) cap3)) ∧
      ∃ bufv' l1' l2', l1' ++ l2' = l1 ++ l2 ++ (c :: (Lib.itoa i ++ [13, 10])) ∧ Bw bw fb bb bufv' l1' l2' w' ∧ RowNew W3 bufv bufv' ∧ Fr (Bw.S bw bb fb bufv) W3 w' := by
    refine hW.mono ?_
    rintro e w' ⟨rfl, bufv', l1', l2', q1, q2, q3, q4⟩
    have q5 : Fr (Bw.S bw bb fb bufv) W3 w' := ⟨q4.os, q4.tape, q4.output, q4.size, q4.block⟩
    have hk : ¬ Bw.S bw bb fb bufv rw := by
      obtain ⟨cur, p1, p2, p3⟩ := hM3s.hB.hfb
      obtain ⟨⟨lr, t1⟩, t2, t3⟩ := hM3s.hB.hbb
      rintro (e | e | e | e)
      · exact tag_ne hM3s.hrw hM3s.hB.hbw (by decide) e
      · exact tag_ne hM3s.hrw t1 (by decide) e
      · exact tag_ne hM3s.hrw p1 (by decide) e
      · obtain ⟨c, hc⟩ := own_tag t2 e.symm; exact tag_ne hc hM3s.hrw (by decide) rfl
    exact ⟨rfl, ⟨q5.cell hM3s.c0 hk, q5.cell hM3s.c1 hk⟩, bufv', l1', l2', q1, q2, q3, q5⟩
  have d0 := hM3s.c0
  have d1 := hM3s.c1
  clear hW hxs hplen
  go_region_held3 (fun w' => w'.cell? ⟨rw, 0, none⟩ = some (.pointer (some ⟨bw, 0, none⟩)) ∧ w'.cell? ⟨rw, 1, none⟩ = some (.slice (some ⟨g3, 0, none⟩) (1 + (Lib.itoa i).length + 2) cap3)) (go_keep)
    (first | (go_at_call 47; refine hW2.mono ?_; rintro e W4 ⟨rfl, ⟨k0, k1⟩, bufv4, l1', l2', q1, q2, q3, q4⟩))
  go_wp2
  go_end0
  refine ⟨rfl, _, bufv4, l1', l2', _, _, q1, hM3s.wrote q2 q3 q4, hN3, orMap q3 (fun ⟨k, e, hk⟩ => ⟨k, e, Nat.le_trans hF3s.size hk⟩), ?_⟩
  refine (hF3s.mono (S' := fun k => k = rw ∨ some k = (Value.slice ao 0 cap).ownBlock ∨ Bw.S bw bb fb bufv k) ?_).trans q4 (fun k hk => Or.inl (Or.inr (Or.inr hk)))
  rintro k (e | e)
  · exact Or.inl e
  · exact Or.inr (Or.inl e)

/-- (*resp.Writer).header. -/
theorem header (s : St) (l : List UInt8) (pre : Int) (c : UInt8) (i : Int) (w : World) (h : s.Is l w) (hc : pre = (c.toNat : Int)) (h0 : -9223372036854775808 ≤ i) (h1 : i ≤ 9223372036854775807) (hlim : l.length ≤ 1073741824) :
    Calls Tryd.prog 44 #[.pointer (some ⟨s.rw, 0, none⟩), .int .u8 pre, .int .i64 i] w (Wrote s (l ++ (c :: (Lib.itoa i ++ [13, 10]))) w) := by
  obtain ⟨pr, hrw⟩ := h.hrw
  obtain ⟨l1, l2, hl, hB⟩ := h.hB
  obtain ⟨n, xs, hown⟩ := h.hown
  have hlo : 2 ≤ s.rw ∧ 2 ≤ s.bw ∧ 2 ≤ s.fb ∧ 2 ≤ s.bb := ⟨h.lo _ (Or.inl rfl), h.lo _ (Or.inr (Or.inl rfl)), h.lo _ (Or.inr (Or.inr (Or.inl rfl))), h.lo _ (Or.inr (Or.inr (Or.inr (Or.inl rfl))))⟩
  have hlov : ∀ k, s.numv.ownBlock = some k → 2 ≤ k := fun k e => h.lo _ (Or.inr (Or.inr (Or.inr (Or.inr (Or.inl e.symm)))))
  have hlob : ∀ k, s.bufv.ownBlock = some k → 2 ≤ k := fun k e => h.lo _ (Or.inr (Or.inr (Or.inr (Or.inr (Or.inr e.symm)))))
  have hll : l1.length + l2.length ≤ 1073741824 := by rw [← hl, List.length_append] at hlim; exact hlim
  have core : ∀ ao nn cap, s.numv = .slice ao nn cap → w.ownsRow 0 5 1 (.slice ao 0 cap) 0 [] → (Value.slice ao 0 cap).ownBlock = s.numv.ownBlock → (∀ W, (Instr.slice 25 (.slice ao nn cap) none (some (.int .i64 0)) none).run Tryd.prog W = .ok (.slice ao 0 cap) W) →
      Calls Tryd.prog 44 #[.pointer (some ⟨s.rw, 0, none⟩), .int .u8 pre, .int .i64 i] w (Wrote s (l ++ (c :: (Lib.itoa i ++ [13, 10]))) w) := by
    intro ao nn cap hv ho hob hsl
    have hM : Mid s.rw s.bw s.fb s.bb (.slice ao nn cap) (.slice ao 0 cap) s.bufv l1 l2 0 [] pr w :=
      ⟨by rw [← hv]; exact hrw, hB, ho, by rw [hob]; exact h.hnf, by rw [hob]; exact h.hnb, h.tab, hlo, by rw [hob]; exact hlov, hlob⟩
    refine (header_core s.rw s.bw s.fb s.bb ao nn cap s.bufv l1 l2 pr pre c i w hM hsl hc h0 h1 hll).mono ?_
    rintro e w' ⟨rfl, v3, bufv3, l1', l2', n3, xs3, q1, q2, q3, q4, q5⟩
    have hlt := h.tab.lt
    have hS : ∀ k, (⟨s.rw, s.bw, s.fb, s.bb, v3, bufv3⟩ : St).S k → s.S k ∨ w.heap.size ≤ k := by
      rintro k (e | e | e | e | e | e)
      · exact Or.inl (Or.inl e)
      · exact Or.inl (Or.inr (Or.inl e))
      · exact Or.inl (Or.inr (Or.inr (Or.inl e)))
      · exact Or.inl (Or.inr (Or.inr (Or.inr (Or.inl e))))
      · rcases q3 with e' | ⟨k', e', hk'⟩
        · exact Or.inl (Or.inr (Or.inr (Or.inr (Or.inr (Or.inl (e.trans (e'.trans hob)))))))
        · have e2 : k = k' := Option.some.inj (e.trans e')
          exact Or.inr (by omega)
      · rcases q4 with e' | ⟨k', e', hk'⟩
        · exact Or.inl (Or.inr (Or.inr (Or.inr (Or.inr (Or.inr (e.trans e'))))))
        · have e2 : k = k' := Option.some.inj (e.trans e')
          exact Or.inr (by omega)
    refine ⟨rfl, ⟨s.rw, s.bw, s.fb, s.bb, v3, bufv3⟩, ⟨rfl, rfl, rfl, hS⟩, ⟨⟨pr, q2.hrw⟩, ⟨l1', l2', by rw [q1, hl], q2.hB⟩, ⟨n3, xs3, q2.hown⟩, q2.hnf, q2.hnb, q2.tab, ?_⟩, q5.mono ?_⟩
    · intro k hk
      rcases hS k hk with e | e
      · exact h.lo k e
      · omega
    · rintro k (e | e | e | e | e | e)
      · exact Or.inl e
      · exact Or.inr (Or.inr (Or.inr (Or.inr (Or.inl (e.trans hob)))))
      · exact Or.inr (Or.inl e)
      · exact Or.inr (Or.inr (Or.inr (Or.inl e)))
      · exact Or.inr (Or.inr (Or.inl e))
      · exact Or.inr (Or.inr (Or.inr (Or.inr (Or.inr e))))
  rcases hown.2 with ⟨hv, h00⟩ | ⟨g, cap, cur, hv, -, hg, q1, q2, q3, q4⟩
  · exact core none 0 0 hv (World.ownsRow_nil _ _ _ _) (by rw [hv]) slice_zero_nil
  · exact core (some ⟨g, 0, none⟩) n cap hv ⟨by simp, Or.inr ⟨g, cap, cur, rfl, Nat.zero_le _, hg, Nat.zero_le _, q2, q3, by simp⟩⟩ (by rw [hv]; rfl) (slice_zero g n cap)
end Go.Proofs.Qxb6614442aDoor
