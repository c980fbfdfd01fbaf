import Derived.Test.Qxb6614442aDoorRy
namespace Go.Proofs.Qxb6614442aDoor
open Go.RowKit

structure Qd where
  group : ByteArray
  read : Int
  write : Int
  perm : Int

structure Md where
  id : Int
  addr : ByteArray

structure Bd where
  group : ByteArray
  cluster : ByteArray
  mems : List Md

def i64 (n : Int) : Prop := -9223372036854775808 ≤ n ∧ n ≤ 9223372036854775807

def Qd.enc (q : Qd) : List UInt8 := num 42 4 ++ bulk q.group.data.toList ++ num 58 q.read ++ num 58 q.write ++ num 58 q.perm
def Md.enc (m : Md) : List UInt8 := num 42 2 ++ num 58 m.id ++ bulk m.addr.data.toList
def encAll {α : Type} (f : α → List UInt8) (l : List α) : List UInt8 := l.flatMap f
def Bd.enc (b : Bd) : List UInt8 := num 42 3 ++ bulk b.group.data.toList ++ bulk b.cluster.data.toList ++ num 42 b.mems.length ++ encAll Md.enc b.mems
def encRoute (rev : Int) (qs : List Qd) (bs : List Bd) : List UInt8 := num 58 rev ++ num 42 qs.length ++ encAll Qd.enc qs ++ num 42 bs.length ++ encAll Bd.enc bs

/-- Blocks of other tags than the writer's own stand. -/
def Oth (w w' : World) : Prop := ∀ (k : Nat) (c : Array Value) (t : TypeId) (fz : Nat × Nat), w.heap[k]? = some (.cells c t fz) → t ≠ 5 → t ≠ 67 → t ≠ 101 → t ≠ 110 → w'.heap[k]? = some (.cells c t fz)

theorem Oth.refl (w : World) : Oth w w := fun _ _ _ _ h _ _ _ _ => h
theorem Oth.trans {a b c : World} (h : Oth a b) (g : Oth b c) : Oth a c := fun k c t fz hk h1 h2 h3 h4 => g k c t fz (h k c t fz hk h1 h2 h3 h4) h1 h2 h3 h4
theorem Oth.alloc {a b : World} (h : Oth a b) (o : Obj) : Oth a (b.alloc o) := fun k c t fz hk h1 h2 h3 h4 => by
  have := h k c t fz hk h1 h2 h3 h4
  rw [Below.heap_alloc _ _ _ (Lib.lt_of_heap this)]; exact this

theorem St.Is.tags {s : St} {l : List UInt8} {w : World} (h : s.Is l w) : ∀ k, s.S k → ∃ c t, w.heap[k]? = some (.cells c t (0, 0)) ∧ (t = 5 ∨ t = 67 ∨ t = 101 ∨ t = 110) := by
  obtain ⟨l1, l2, n, xs, pr, hl, hM⟩ := h.mid
  obtain ⟨cur, q1, -, -⟩ := hM.hB.hfb
  obtain ⟨⟨lr, p1⟩, p2, -⟩ := hM.hB.hbb
  rintro k (e | e | e | e | e | e)
  · subst e; exact ⟨_, _, hM.hrw, by simp⟩
  · subst e; exact ⟨_, _, hM.hB.hbw, by simp⟩
  · subst e; exact ⟨_, _, q1, by simp⟩
  · subst e; exact ⟨_, _, p1, by simp⟩
  · obtain ⟨c, hc⟩ := own_tag hM.hown e.symm; exact ⟨c, 5, hc, by simp⟩
  · obtain ⟨c, hc⟩ := own_tag p2 e.symm; exact ⟨c, 5, hc, by simp⟩

theorem St.Is.lt {s : St} {l : List UInt8} {w : World} (h : s.Is l w) : ∀ k, s.S k → k < w.heap.size := fun k hk => by
  obtain ⟨c, t, hc, -⟩ := h.tags k hk
  exact Lib.lt_of_heap hc

theorem Oth.of_fr {s : St} {l : List UInt8} {w w' : World} (h : s.Is l w) (f : Fr s.S w w') : Oth w w' := fun k c t fz hk h1 h2 h3 h4 => f.heap hk (fun e => by
  obtain ⟨c', t', hc, ht⟩ := h.tags k e
  rw [hk] at hc
  injection hc with hc
  injection hc with _ e2 _
  subst e2
  rcases ht with e | e | e | e <;> first | exact absurd e h1 | exact absurd e h2 | exact absurd e h3 | exact absurd e h4)

/-- A new block changes nothing for the writer. -/
theorem St.Is.alloc {s : St} {l : List UInt8} {w : World} (h : s.Is l w) (o : Obj) : s.Is l (w.alloc o) := by
  obtain ⟨l1, l2, n, xs, pr, hl, hM⟩ := h.mid
  have hI := (hM.same ((Fr.refl (fun _ => False) w).alloc o) (fun _ e => e.elim)).st
  rw [hl] at hI
  exact hI

/-- The writer that was s in w0 has been handed l since. -/
def Go (s : St) (w0 : World) (l : List UInt8) (wr : World) : Prop := ∃ s' : St, s.Next s' w0 ∧ s'.Is l wr ∧ Fr s.S w0 wr

theorem Go.start {s : St} {l : List UInt8} {w : World} (h : s.Is l w) : Go s w l w := ⟨s, ⟨rfl, rfl, rfl, fun _ e => Or.inl e⟩, h, Fr.refl _ _⟩
theorem Go.alloc {s : St} {l : List UInt8} {w0 wr : World} (h : Go s w0 l wr) (o : Obj) : Go s w0 l (wr.alloc o) := by
  obtain ⟨s', h1, h2, h3⟩ := h
  exact ⟨s', h1, h2.alloc o, h3.alloc o⟩
theorem Go.size {s : St} {l : List UInt8} {w0 wr : World} (h : Go s w0 l wr) : w0.heap.size ≤ wr.heap.size := by
  obtain ⟨s', h1, h2, h3⟩ := h
  exact h3.size

theorem Go.wrote {s : St} {w0 : World} {l l' : List UInt8} {wr : World} {f : Nat} {args : Array Value} (h : Go s w0 l wr) (hc : ∀ s' : St, s'.rw = s.rw → s'.Is l wr → Calls Tryd.prog f args wr (Wrote s' l' wr)) :
    Calls Tryd.prog f args wr fun e w' => e = .returned (.tuple #[]) ∧ Go s w0 l' w' ∧ Oth wr w' := by
  obtain ⟨s', h1, h2, h3⟩ := h
  refine (hc s' h1.1 h2).mono ?_
  rintro e w' ⟨rfl, s'', q1, q2, q3⟩
  exact ⟨rfl, ⟨s'', h1.trans q1 h3.size, q2, h1.fr h3 q3⟩, Oth.of_fr h2 q3⟩

theorem go_integer {s : St} {w0 : World} {l : List UInt8} {wr : World} (h : Go s w0 l wr) (i : Int) (hi : i64 i) (hl : l.length ≤ 1073741824) :
    Calls Tryd.prog 41 #[.pointer (some ⟨s.rw, 0, none⟩), .int .i64 i] wr fun e w' => e = .returned (.tuple #[]) ∧ Go s w0 (l ++ num 58 i) w' ∧ Oth wr w' :=
  h.wrote (fun s' e hs => by rw [← e]; exact integer s' l i wr hs hi.1 hi.2 hl)
theorem go_array {s : St} {w0 : World} {l : List UInt8} {wr : World} (h : Go s w0 l wr) (i : Int) (hi : i64 i) (hl : l.length ≤ 1073741824) :
    Calls Tryd.prog 39 #[.pointer (some ⟨s.rw, 0, none⟩), .int .i64 i] wr fun e w' => e = .returned (.tuple #[]) ∧ Go s w0 (l ++ num 42 i) w' ∧ Oth wr w' :=
  h.wrote (fun s' e hs => by rw [← e]; exact array s' l i wr hs hi.1 hi.2 hl)
theorem go_bulk {s : St} {w0 : World} {l : List UInt8} {wr : World} (h : Go s w0 l wr) (t : ByteArray) (hl : l.length + t.size + 100 ≤ 1073741824) :
    Calls Tryd.prog 42 #[.pointer (some ⟨s.rw, 0, none⟩), .string t] wr fun e w' => e = .returned (.tuple #[]) ∧ Go s w0 (l ++ bulk t.data.toList) w' ∧ Oth wr w' :=
  h.wrote (fun s' e hs => by rw [← e]; exact bulk_w s' l t wr hs hl)

/-- Block b, of tag t, holds the structs xs, z cells each. -/
def HRows (b : Nat) (t : TypeId) (z : Nat) (xs : List (List Value)) (w : World) : Prop := ∃ cur, w.heap[b]? = some (.cells cur t (0, 0)) ∧ ∀ i r, xs[i]? = some r → ∀ j x, r[j]? = some x → cur[i * z + j]? = some x

theorem HRows.cell {b : Nat} {t : TypeId} {z : Nat} {xs : List (List Value)} {w : World} (h : HRows b t z xs w) {i : Nat} {r : List Value} (hi : xs[i]? = some r) {j : Nat} {x : Value} (hj : r[j]? = some x) : w.cell? ⟨b, i * z + j, none⟩ = some x := by
  obtain ⟨cur, h1, h2⟩ := h
  rw [Lib.cell_of_heap h1]
  exact h2 i r hi j x hj

theorem HRows.oth {b : Nat} {t : TypeId} {z : Nat} {xs : List (List Value)} {w w' : World} (h : HRows b t z xs w) (o : Oth w w') (h1 : t ≠ 5) (h2 : t ≠ 67) (h3 : t ≠ 101) (h4 : t ≠ 110) : HRows b t z xs w' := by
  obtain ⟨cur, q1, q2⟩ := h
  exact ⟨cur, o b cur t _ q1 h1 h2 h3 h4, q2⟩

def Qd.cells (q : Qd) : List Value := [.string q.group, .int .i64 q.read, .int .i64 q.write, .int .i64 q.perm]
def Md.cells (m : Md) : List Value := [.int .i64 m.id, .string m.addr]


end Go.Proofs.Qxb6614442aDoor
