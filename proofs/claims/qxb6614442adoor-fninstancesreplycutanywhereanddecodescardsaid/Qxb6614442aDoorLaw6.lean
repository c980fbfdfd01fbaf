import Derived.Test.Qxb6614442aDoorTb
import Derived.Test.Qxb6614442aDoorRead2
namespace Go.Proofs.Qxb6614442aDoor
open Go.RowKit

theorem mem_sumBy {α : Type} (f : α → Nat) (l : List α) (x : α) (h : x ∈ l) : f x ≤ sumBy f l := by
  induction l with
  | nil => cases h
  | cons a t ih =>
    have e : sumBy f (a :: t) = f a + sumBy f t := by simp [sumBy]
    rcases List.mem_cons.1 h with rfl | h
    · omega
    · have := ih h; omega

theorem encAll_len {α : Type} (f : α → List UInt8) (g : α → Nat) (c : Nat) (l : List α) (h : ∀ x ∈ l, (f x).length ≤ c * (1 + g x)) : (encAll f l).length ≤ c * (l.length + sumBy g l) := by
  induction l with
  | nil => simp [encAll]
  | cons a t ih =>
    have e1 : sumBy g (a :: t) = g a + sumBy g t := by simp [sumBy]
    have e2 : (encAll f (a :: t)).length = (f a).length + (encAll f t).length := by simp [encAll]
    have h1 := h a (by simp)
    have h2 := ih (fun x hx => h x (by simp [hx]))
    rw [e1, e2, List.length_cons]
    have e3 : c * (t.length + 1 + (g a + sumBy g t)) = c * (1 + g a) + c * (t.length + sumBy g t) := by rw [← Nat.mul_add]; congr 1; omega
    omega

theorem bulk_length (s : ByteArray) (h : s.size ≤ 9223372036854775807) : (bulk s.data.toList).length ≤ s.size + 26 := by
  have hsz : s.data.toList.length = s.size := (Lib.size_eq s).symm
  have := num_length 36 (s.size : Int) (by omega) (by omega)
  unfold bulk
  rw [hsz, List.length_append, List.length_append, hsz]
  simp
  omega

theorem encRoute_len (rev : Int) (qs : List Qd) (bs : List Bd) (hrev : i64 rev) (hqi : ∀ q ∈ qs, i64 q.read ∧ i64 q.write ∧ i64 q.perm) (hmi : ∀ b ∈ bs, ∀ x ∈ b.mems, i64 x.id) (hc : routeCost qs bs ≤ 1048576) :
    (encRoute rev qs bs).length + 1000 ≤ 1073741824 := by
  have h1 : (encAll Qd.enc qs).length ≤ 122 * (qs.length + sumBy (fun q => q.group.size) qs) := by
    refine encAll_len _ _ _ _ (fun q hq => ?_)
    obtain ⟨i1, i2, i3⟩ := hqi q hq
    have m := mem_sumBy (fun q : Qd => q.group.size) qs q hq
    unfold routeCost at hc
    have n1 := num_length 42 4 (by omega) (by omega)
    have n2 := num_length 58 q.read i1.1 i1.2
    have n3 := num_length 58 q.write i2.1 i2.2
    have n4 := num_length 58 q.perm i3.1 i3.2
    have b1 := bulk_length q.group (by omega)
    unfold Qd.enc
    simp only [List.length_append]
    omega
  have h2 : (encAll Bd.enc bs).length ≤ 122 * (bs.length + sumBy Bd.cost bs) := by
    refine encAll_len _ _ _ _ (fun b hb => ?_)
    have m := mem_sumBy Bd.cost bs b hb
    have hm : (encAll Md.enc b.mems).length ≤ 122 * (b.mems.length + sumBy (fun m => m.addr.size) b.mems) := by
      refine encAll_len _ _ _ _ (fun x hx => ?_)
      have mm := mem_sumBy (fun m : Md => m.addr.size) b.mems x hx
      have i1 := hmi b hb x hx
      have hbc : Bd.cost b = b.group.size + b.cluster.size + b.mems.length + sumBy (fun m => m.addr.size) b.mems := rfl
      unfold routeCost at hc
      have n1 := num_length 42 2 (by omega) (by omega)
      have n2 := num_length 58 x.id i1.1 i1.2
      have b1 := bulk_length x.addr (by omega)
      unfold Md.enc
      simp only [List.length_append]
      omega
    have hbc : Bd.cost b = b.group.size + b.cluster.size + b.mems.length + sumBy (fun m => m.addr.size) b.mems := rfl
    unfold routeCost at hc
    have n1 := num_length 42 3 (by omega) (by omega)
    have n2 := num_length 42 (b.mems.length : Int) (by omega) (by omega)
    have b1 := bulk_length b.group (by omega)
    have b2 := bulk_length b.cluster (by omega)
    unfold Bd.enc
    simp only [List.length_append]
    omega
  unfold routeCost at hc
  have n1 := num_length 58 rev hrev.1 hrev.2
  have n2 := num_length 42 (qs.length : Int) (by omega) (by omega)
  have n3 := num_length 42 (bs.length : Int) (by omega) (by omega)
  unfold encRoute
  simp only [List.length_append]
  omega

/-- A numeral v of prefix pre stands at p and ends at p'. -/
def NumAt (g cap n : Nat) (l : List UInt8) (p : Nat) (pre v : Int) (p' : Nat) : Prop :=
  ∀ W, BytesAt g l W → Calls Tryd.prog 12 #[.slice (some ⟨g, 0, none⟩) n cap, .int .i64 (p : Int), .int .u8 pre] W fun e w' => e = .returned (.tuple #[.int .i64 v, .int .i64 (p' : Int), .bool true]) ∧ w' = W
def BulkAt (g cap n : Nat) (l : List UInt8) (p : Nat) (s : ByteArray) (p' : Nat) : Prop :=
  ∀ W, BytesAt g l W → Calls Tryd.prog 26 #[.slice (some ⟨g, 0, none⟩) n cap, .int .i64 (p : Int), .string s] W fun e w' => e = .returned (.tuple #[.int .i64 (p' : Int), .bool true]) ∧ BytesAt g l w' ∧ Fr (fun _ => False) W w'

theorem numAt {g cap : Nat} {l p r : List UInt8} {c : UInt8} {pre v : Int} (hl : l = p ++ (num c v ++ r)) (hpre : pre = (c.toNat : Int)) (hv : i64 v) (hlen : l.length ≤ 1073741824) : NumAt g cap l.length l p.length pre v (p ++ num c v).length := fun W hW => by
  rw [List.length_append]
  exact readNum_ok g cap l p r c pre v W hl hpre hv hW (by omega)
theorem bulkAt {g cap : Nat} {l p r : List UInt8} {s : ByteArray} (hl : l = p ++ (bulk s.data.toList ++ r)) (hlen : l.length ≤ 1073741824) : BulkAt g cap l.length l p.length s (p ++ bulk s.data.toList).length := fun W hW => by
  rw [List.length_append]
  have hsz : s.data.toList.length = s.size := (Lib.size_eq s).symm
  have hs : s.size ≤ 1073741824 := by
    rw [hl] at hlen
    unfold bulk at hlen
    simp only [List.length_append] at hlen
    omega
  refine (expectBulk_ok g cap l p r s W hl hs hW (by omega)).mono ?_
  rintro e w' ⟨rfl, n, rfl⟩
  exact ⟨rfl, hW, (Fr.refl _ W).drewN n⟩

theorem reads_q {g cap : Nat} {l p r : List UInt8} {q : Qd} (hl : l = p ++ (q.enc ++ r)) (hi : i64 q.read ∧ i64 q.write ∧ i64 q.perm) (hlen : l.length ≤ 1073741824) :
    ∃ a1 a2 a3 a4, NumAt g cap l.length l p.length 42 4 a1 ∧ BulkAt g cap l.length l a1 q.group a2 ∧ NumAt g cap l.length l a2 58 q.read a3 ∧ NumAt g cap l.length l a3 58 q.write a4 ∧ NumAt g cap l.length l a4 58 q.perm (p ++ q.enc).length := by
  refine ⟨_, _, _, _, numAt (c := 42) (r := bulk q.group.data.toList ++ num 58 q.read ++ num 58 q.write ++ num 58 q.perm ++ r) ?_ rfl ⟨by decide, by decide⟩ hlen,
    bulkAt (r := num 58 q.read ++ num 58 q.write ++ num 58 q.perm ++ r) ?_ hlen,
    numAt (c := 58) (r := num 58 q.write ++ num 58 q.perm ++ r) ?_ rfl hi.1 hlen, numAt (c := 58) (r := num 58 q.perm ++ r) ?_ rfl hi.2.1 hlen, ?_⟩
  · rw [hl]; simp [Qd.enc]
  · rw [hl]; simp [Qd.enc]
  · rw [hl]; simp [Qd.enc]
  · rw [hl]; simp [Qd.enc]
  · have e : p ++ q.enc = (p ++ num 42 4 ++ bulk q.group.data.toList ++ num 58 q.read ++ num 58 q.write) ++ num 58 q.perm := by simp [Qd.enc]
    rw [e]
    exact numAt (r := r) (by rw [hl]; simp [Qd.enc]) rfl hi.2.2 hlen

theorem reads_m {g cap : Nat} {l p r : List UInt8} {m : Md} (hl : l = p ++ (m.enc ++ r)) (hi : i64 m.id) (hlen : l.length ≤ 1073741824) :
    ∃ a1 a2, NumAt g cap l.length l p.length 42 2 a1 ∧ NumAt g cap l.length l a1 58 m.id a2 ∧ BulkAt g cap l.length l a2 m.addr (p ++ m.enc).length := by
  refine ⟨_, _, numAt (c := 42) (r := num 58 m.id ++ bulk m.addr.data.toList ++ r) ?_ rfl ⟨by decide, by decide⟩ hlen, numAt (c := 58) (r := bulk m.addr.data.toList ++ r) ?_ rfl hi hlen, ?_⟩
  · rw [hl]; simp [Md.enc]
  · rw [hl]; simp [Md.enc]
  · have e : p ++ m.enc = (p ++ num 42 2 ++ num 58 m.id) ++ bulk m.addr.data.toList := by simp [Md.enc]
    rw [e]
    exact bulkAt (r := r) (by rw [hl]; simp [Md.enc]) hlen

/-- The head of a broker, ahead of its members. -/
def Bd.head (b : Bd) : List UInt8 := num 42 3 ++ bulk b.group.data.toList ++ bulk b.cluster.data.toList ++ num 42 b.mems.length

theorem reads_b {g cap : Nat} {l p r : List UInt8} {b : Bd} (hl : l = p ++ (b.head ++ r)) (hi : b.mems.length ≤ 1073741824) (hlen : l.length ≤ 1073741824) :
    ∃ a1 a2 a3, NumAt g cap l.length l p.length 42 3 a1 ∧ BulkAt g cap l.length l a1 b.group a2 ∧ BulkAt g cap l.length l a2 b.cluster a3 ∧ NumAt g cap l.length l a3 42 (b.mems.length : Int) (p ++ b.head).length := by
  refine ⟨_, _, _, numAt (c := 42) (r := bulk b.group.data.toList ++ bulk b.cluster.data.toList ++ num 42 b.mems.length ++ r) ?_ rfl ⟨by decide, by decide⟩ hlen, bulkAt (r := bulk b.cluster.data.toList ++ num 42 b.mems.length ++ r) ?_ hlen, bulkAt (r := num 42 b.mems.length ++ r) ?_ hlen, ?_⟩
  · rw [hl]; simp [Bd.head]
  · rw [hl]; simp [Bd.head]
  · rw [hl]; simp [Bd.head]
  · have e : p ++ b.head = (p ++ num 42 3 ++ bulk b.group.data.toList ++ bulk b.cluster.data.toList) ++ num 42 b.mems.length := by simp [Bd.head]
    rw [e]
    exact numAt (r := r) (by rw [hl]; simp [Bd.head]) rfl ⟨by omega, by omega⟩ hlen

/-- A list is the taken ones, the next one, and a rest. -/
theorem encAll_split {α : Type} (f : α → List UInt8) (l : List α) (k : Nat) (x : α) (h : l[k]? = some x) : ∃ r, encAll f l = encAll f (l.take k) ++ (f x ++ r) := by
  refine ⟨encAll f (l.drop (k + 1)), ?_⟩
  have e := encAll_take_succ f l k x h
  have e2 : encAll f l = encAll f (l.take (k + 1)) ++ encAll f (l.drop (k + 1)) := by
    unfold encAll
    rw [← List.flatMap_append, List.take_append_drop]
  rw [e2, e, List.append_assoc]

theorem reads_list {α : Type} (f : α → List UInt8) (xs : List α) (l p r : List UInt8) (hl : l = p ++ (encAll f xs ++ r)) : ∃ P : Nat → List UInt8, P 0 = p ∧ P xs.length = p ++ encAll f xs ∧ ∀ k x, xs[k]? = some x → P (k + 1) = P k ++ f x ∧ ∃ r', l = P k ++ (f x ++ r') := by
  refine ⟨fun k => p ++ encAll f (xs.take k), by simp [encAll], by simp, fun k x hx => ⟨by show p ++ encAll f (xs.take (k + 1)) = p ++ encAll f (xs.take k) ++ f x; rw [encAll_take_succ f xs k x hx, List.append_assoc], ?_⟩⟩
  obtain ⟨r', hr⟩ := encAll_split f xs k x hx
  exact ⟨r' ++ r, by rw [hl, hr]; simp⟩

structure Reads (g cap : Nat) (l : List UInt8) (rev : Int) (qs : List Qd) (bs : List Bd) (a0 : Nat) (Pq Pb : Nat → Nat) : Prop where
  h0 : NumAt g cap l.length l 0 58 rev a0
  h1 : NumAt g cap l.length l a0 42 (qs.length : Int) (Pq 0)
  hq : ∀ k q, qs[k]? = some q → ∃ a1 a2 a3 a4, NumAt g cap l.length l (Pq k) 42 4 a1 ∧ BulkAt g cap l.length l a1 q.group a2 ∧ NumAt g cap l.length l a2 58 q.read a3 ∧ NumAt g cap l.length l a3 58 q.write a4 ∧ NumAt g cap l.length l a4 58 q.perm (Pq (k + 1))
  h2 : NumAt g cap l.length l (Pq qs.length) 42 (bs.length : Int) (Pb 0)
  hb : ∀ k b, bs[k]? = some b → ∃ a1 a2 a3, ∃ Pm : Nat → Nat, NumAt g cap l.length l (Pb k) 42 3 a1 ∧ BulkAt g cap l.length l a1 b.group a2 ∧ BulkAt g cap l.length l a2 b.cluster a3 ∧ NumAt g cap l.length l a3 42 (b.mems.length : Int) (Pm 0) ∧
    (∀ j m, b.mems[j]? = some m → ∃ a1 a2, NumAt g cap l.length l (Pm j) 42 2 a1 ∧ NumAt g cap l.length l a1 58 m.id a2 ∧ BulkAt g cap l.length l a2 m.addr (Pm (j + 1))) ∧ Pm b.mems.length = Pb (k + 1)
  h3 : Pb bs.length = l.length

theorem reads (g cap : Nat) (l : List UInt8) (rev : Int) (qs : List Qd) (bs : List Bd) (hl : l = encRoute rev qs bs) (hlen : l.length ≤ 1073741824) (hrev : i64 rev) (hql : qs.length ≤ 1048576) (hbl : bs.length ≤ 1048576)
    (hqi : ∀ q ∈ qs, i64 q.read ∧ i64 q.write ∧ i64 q.perm) (hmi : ∀ b ∈ bs, b.mems.length ≤ 1048576 ∧ ∀ x ∈ b.mems, i64 x.id) : ∃ a0 Pq Pb, Reads g cap l rev qs bs a0 Pq Pb := by
  obtain ⟨P, p0, p1, p2⟩ := reads_list Qd.enc qs l (num 58 rev ++ num 42 qs.length) (num 42 bs.length ++ encAll Bd.enc bs) (by rw [hl]; simp [encRoute])
  obtain ⟨B, b0, b1, b2⟩ := reads_list Bd.enc bs l (num 58 rev ++ num 42 qs.length ++ encAll Qd.enc qs ++ num 42 bs.length) [] (by rw [hl]; simp [encRoute])
  refine ⟨(num 58 rev).length, fun k => (P k).length, fun k => (B k).length, ⟨?_, ?_, ?_, ?_, ?_, ?_⟩⟩
  · exact numAt (p := []) (c := 58) (r := num 42 qs.length ++ encAll Qd.enc qs ++ num 42 bs.length ++ encAll Bd.enc bs) (by rw [hl]; simp [encRoute]) rfl hrev hlen
  · show NumAt _ _ _ _ _ _ _ (P 0).length
    rw [p0]
    exact numAt (c := 42) (r := encAll Qd.enc qs ++ num 42 bs.length ++ encAll Bd.enc bs) (by rw [hl]; simp [encRoute]) rfl ⟨by omega, by omega⟩ hlen
  · intro k q hk
    obtain ⟨e, r', hr⟩ := p2 k q hk
    show ∃ a1 a2 a3 a4, _ ∧ _ ∧ _ ∧ _ ∧ NumAt _ _ _ _ _ _ _ (P (k + 1)).length
    rw [e]
    exact reads_q hr (hqi q (List.mem_of_getElem? hk)) hlen
  · show NumAt _ _ _ _ (P qs.length).length _ _ (B 0).length
    rw [p1, b0]
    exact numAt (c := 42) (r := encAll Bd.enc bs) (by rw [hl]; simp [encRoute]) rfl ⟨by omega, by omega⟩ hlen
  · intro k b hk
    obtain ⟨e, r', hr⟩ := b2 k b hk
    obtain ⟨m1, m2⟩ := hmi b (List.mem_of_getElem? hk)
    obtain ⟨a1, a2, a3, n1, n2, n3, n4⟩ := reads_b (g := g) (cap := cap) (l := l) (p := B k) (b := b) (r := encAll Md.enc b.mems ++ r') (by rw [hr]; simp [Bd.enc, Bd.head]) (by omega) hlen
    obtain ⟨M, q0, q1, q2⟩ := reads_list Md.enc b.mems l (B k ++ b.head) r' (by rw [hr]; simp [Bd.enc, Bd.head])
    refine ⟨a1, a2, a3, fun j => (M j).length, n1, n2, n3, ?_, ?_, ?_⟩
    · show NumAt _ _ _ _ _ _ _ (M 0).length
      rw [q0]; exact n4
    · intro j m hj
      obtain ⟨e', r2, hr2⟩ := q2 j m hj
      show ∃ a1 a2, _ ∧ _ ∧ BulkAt _ _ _ _ _ _ (M (j + 1)).length
      rw [e']
      exact reads_m hr2 (m2 m (List.mem_of_getElem? hj)) hlen
    · show (M b.mems.length).length = (B (k + 1)).length
      rw [q1, e]; simp [Bd.enc, Bd.head]
  · show (B bs.length).length = _
    rw [b1, hl]; rfl
end Go.Proofs.Qxb6614442aDoor
