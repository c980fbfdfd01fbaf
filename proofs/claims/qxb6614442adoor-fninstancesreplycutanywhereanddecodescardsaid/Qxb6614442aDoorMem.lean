import Derived.WalkKit
import Derived.Lib.BufferOwn
import Derived.Lib.BufferGrow
import Derived.Lib.BufferWrite
import Derived.Lib.Hide
namespace Go.Proofs.Qxb6614442aDoor
open Go.RowKit

structure Fr (S : Nat → Prop) (w w' : World) : Prop where
  os : w'.os = w.os
  tape : w'.tape = w.tape
  output : w'.output = w.output
  size : w.heap.size ≤ w'.heap.size
  block : ∀ k, k < w.heap.size → ¬ S k → w'.heap[k]? = w.heap[k]?

theorem Fr.refl (S : Nat → Prop) (w : World) : Fr S w w := ⟨rfl, rfl, rfl, Nat.le_refl _, fun _ _ _ => rfl⟩

theorem Fr.mono {S S' : Nat → Prop} {w w' : World} (h : Fr S w w') (hs : ∀ k, S k → S' k) : Fr S' w w' :=
  ⟨h.os, h.tape, h.output, h.size, fun k hk hn => h.block k hk (fun e => hn (hs k e))⟩

theorem Fr.trans {S S' : Nat → Prop} {a b c : World} (h : Fr S a b) (k : Fr S' b c) (hs : ∀ i, S' i → S i ∨ a.heap.size ≤ i) : Fr S a c :=
  ⟨k.os.trans h.os, k.tape.trans h.tape, k.output.trans h.output, Nat.le_trans h.size k.size, fun i hi hn => by
    rw [k.block i (Nat.lt_of_lt_of_le hi h.size) (fun e => (hs i e).elim hn (fun e' => by omega)), h.block i hi hn]⟩

theorem Fr.drewN {S : Nat → Prop} {a w : World} (h : Fr S a w) (n : Nat) : Fr S a (w.drewN n) := ⟨h.os, h.tape, h.output, h.size, h.block⟩
theorem Fr.drew {S : Nat → Prop} {a w : World} (h : Fr S a w) : Fr S a w.drew := ⟨h.os, h.tape, h.output, h.size, h.block⟩

theorem Fr.alloc {S : Nat → Prop} {a w : World} (h : Fr S a w) (o : Obj) : Fr S a (w.alloc o) :=
  h.trans (S' := S) ⟨rfl, rfl, rfl, by simp, fun k hk _ => Below.heap_alloc _ _ _ hk⟩ (fun _ hi => Or.inl hi)

theorem Fr.setCell {S : Nat → Prop} {a w : World} (h : Fr S a w) {p : Addr} (hp : S p.block ∨ a.heap.size ≤ p.block) (u : Value) : Fr S a (w.setCell p u) :=
  h.trans (S' := fun k => k = p.block) ⟨rfl, rfl, rfl, by simp [World.setCell], fun k _ hn => Below.heap_setCell _ _ _ _ hn⟩ (fun i hi => by subst hi; exact hp)

theorem Fr.setRow {S : Nat → Prop} {a w : World} (h : Fr S a w) {g : Nat} (hp : S g ∨ a.heap.size ≤ g) (cs : Array Value) : Fr S a (w.setRow g cs) :=
  h.trans (S' := fun k => k = g) ⟨rfl, rfl, rfl, by simp, fun k _ hn => setRow_other _ _ _ _ hn⟩ (fun i hi => by subst hi; exact hp)

theorem Fr.grown {w w' : World} {row : Option Nat} (h : w.grownBy w' row) : Fr (fun k => some k = row) w w' := ⟨h.os, h.tape, h.output, h.size, h.block⟩

theorem Fr.of_below {B : Nat} {w w' : World} (h : Below B w w') : Fr (fun k => B ≤ k) w w' := ⟨h.os, h.tape, h.output, h.size, fun k _ hn => h.block k (by omega)⟩

theorem Fr.below {S : Nat → Prop} {w w' : World} (h : Fr S w w') {B : Nat} (hB : B ≤ w.heap.size) (hs : ∀ k, S k → B ≤ k) : Below B w w' :=
  ⟨h.os, h.tape, h.output, h.size, fun k hk => h.block k (by omega) (fun e => by have := hs k e; omega)⟩

theorem Fr.cell {S : Nat → Prop} {w w' : World} (h : Fr S w w') {p : Addr} {v : Value} (hc : w.cell? p = some v) (hn : ¬ S p.block) : w'.cell? p = some v :=
  (World.cell?_of_block (h.block p.block (World.block_lt_of_cell? w p hc) hn)).trans hc

theorem Fr.heap {S : Nat → Prop} {w w' : World} (h : Fr S w w') {k : Nat} {o : Obj} (hc : w.heap[k]? = some o) (hn : ¬ S k) : w'.heap[k]? = some o :=
  (h.block k (Lib.lt_of_heap hc) hn).trans hc

theorem Fr.owns {S : Nat → Prop} {w w' : World} (h : Fr S w w') {B : Nat} {e : TypeId} {z : Nat} {v : Value} {n : Nat} {xs : List Value} (ho : w.ownsRow B e z v n xs) (hn : ∀ k, v.ownBlock = some k → ¬ S k) : w'.ownsRow B e z v n xs := by
  refine ⟨ho.1, ?_⟩
  rcases ho.2 with hz | ⟨g, cap, cur, rfl, hb, hgg, rest⟩
  · exact .inl hz
  · exact .inr ⟨g, cap, cur, rfl, hb, h.heap hgg (hn g rfl), rest⟩

/-- The tag of a block decides which block it is not. -/
theorem tag_ne {w : World} {a b : Nat} {c d : Array Value} {s t : TypeId} {f g : Nat × Nat} (ha : w.heap[a]? = some (.cells c s f)) (hb : w.heap[b]? = some (.cells d t g)) (h : s ≠ t) : a ≠ b := by
  rintro rfl
  rw [ha] at hb
  injection hb with hb
  injection hb with _ h2 _
  exact h h2

theorem own_tag {w : World} {B : Nat} {e : TypeId} {z : Nat} {v : Value} {n : Nat} {xs : List Value} (ho : w.ownsRow B e z v n xs) {k : Nat} (hk : v.ownBlock = some k) : ∃ cur, w.heap[k]? = some (.cells cur e (0, 0)) := by
  rcases ho.2 with ⟨rfl, _⟩ | ⟨g, cap, cur, rfl, hb, hgg, _⟩
  · simp [Value.ownBlock] at hk
  · simp [Value.ownBlock] at hk; subst hk; exact ⟨cur, hgg⟩

/-- A bytes.Buffer in block b, written only, whose row is v and which holds bs. -/
def BufAt (b : Nat) (v : Value) (bs : List Value) (w : World) : Prop :=
  (∃ lr, w.heap[b]? = some (.cells #[v, .int .i64 0, .int .i8 lr] 67 (0, 0))) ∧ w.ownsRow 0 5 1 v bs.length bs ∧ (bs = [] → v = .slice none 0 0)

/-- The row behind a copy. -/
theorem splice_take (cur : List Value) (l : Nat) (bs cs : List Value) (hl : cur.take l = bs) (hbl : bs.length = l) (h : l + cs.length ≤ cur.length) :
    (cur.take l ++ cs ++ cur.drop (l + cs.length)).length = cur.length ∧ (cur.take l ++ cs ++ cur.drop (l + cs.length)).take (l + cs.length) = bs ++ cs := by
  constructor
  · simp; omega
  · rw [hl]
    have : (bs ++ cs).length = l + cs.length := by simp [hbl]
    rw [← this, List.take_left']
    rfl

/-- What 'copy' into the row of a Buffer leaves. -/
theorem BufAt.copied {W : World} {b g l n cap : Nat} {lr : Int} {cur : Array Value} {bs cs : List Value} (hbk : W.heap[b]? = some (.cells #[.slice (some ⟨g, 0, none⟩) (l + n) cap, .int .i64 0, .int .i8 lr] 67 (0, 0)))
    (hg : W.heap[g]? = some (.cells cur 5 (0, 0))) (hcs : cur.size = cap) (htk : cur.toList.take l = bs) (hbl : bs.length = l) (hcap : l + n ≤ cap) (hcm : cap ≤ maxLen) (hn : cs.length = n) (hn1 : 1 ≤ n) :
    BufAt b (.slice (some ⟨g, 0, none⟩) (l + n) cap) (bs ++ cs) (W.setRow g (cur.toList.take l ++ cs ++ cur.toList.drop (l + cs.length)).toArray) := by
  have hgb : b ≠ g := tag_ne hbk hg (by decide)
  have hcl : cur.toList.length = cap := by rw [Array.length_toList]; exact hcs
  obtain ⟨h1, h2⟩ := splice_take cur.toList l bs cs htk hbl (by omega)
  refine ⟨⟨lr, by rw [setRow_other _ _ _ _ hgb]; exact hbk⟩, ⟨by simp, Or.inr ⟨g, cap, _, by simp [hbl, hn], Nat.zero_le _, setRow_heap W g cur _ 5 (0, 0) hg, by simp [hbl, hn]; exact hcap, hcm, ?_, ?_⟩⟩, ?_⟩
  · rw [List.size_toArray, h1, Array.length_toList]; omega
  · rw [List.toList_toArray, Nat.mul_one, show (bs ++ cs).length = l + cs.length by simp [hbl], h2]
  · intro h
    have h0 : (bs ++ cs).length = 0 := by rw [h]; rfl
    rw [List.length_append] at h0
    omega
end Go.Proofs.Qxb6614442aDoor
