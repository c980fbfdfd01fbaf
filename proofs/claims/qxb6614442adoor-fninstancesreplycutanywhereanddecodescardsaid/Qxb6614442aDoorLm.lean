import Derived.Test.Qxb6614442aDoorLr
namespace Go.Proofs.Qxb6614442aDoor
open Go.RowKit

/-- What INSTANCES replies. -/
def encReply (rev : Int) (ns : List Nd) : List UInt8 := num 42 2 ++ encList rev ns

set_option maxHeartbeats 1000000 in
set_option maxRecDepth 20000 in
theorem instancesReply (rev : Int) (ns : List Nd) (qg qc : Nat) (w : World) (htab : Tab w) (hrev : i64 rev) (hql : ns.length ≤ 1048576)
    (hq : HRows qg 78 4 (ns.map Nd.cells) w) (hqi : ∀ q ∈ ns, i64 q.weight)
    (htot : (encReply rev ns).length + 1000 ≤ 1073741824) :
    Calls Tryd.prog 10 #[.agg #[.int .i64 rev, .slice (some ⟨qg, 0, none⟩) ns.length qc]] w fun e w' => ∃ r, e = .returned r ∧ w'.ownsRow 0 5 1 r (encReply rev ns).length (Lib.byteCells (encReply rev ns)) ∧ Fr (fun _ => False) w w' := by
  have henc : encReply rev ns = [] ++ num 42 2 ++ num 58 rev ++ num 42 ns.length ++ encAll Nd.enc ns := by simp [encReply, encList]
  have hb1 : ((w.alloc (.cells #[.int .i64 rev, .slice (some ⟨qg, 0, none⟩) ns.length qc] 29)).alloc (.cells #[.slice none 0 0, .int .i64 0, .int .i8 0] 67)).heap[w.heap.size + 1]? = some (.cells #[.slice none 0 0, .int .i64 0, .int .i8 0] 67 (0, 0)) := by
    have := heap_alloc_new (w.alloc (.cells #[.int .i64 rev, .slice (some ⟨qg, 0, none⟩) ns.length qc] 29)) (.cells #[.slice none 0 0, .int .i64 0, .int .i8 0] 67)
    simpa using this
  have hf1 : Fr (fun _ => False) w ((w.alloc (.cells #[.int .i64 rev, .slice (some ⟨qg, 0, none⟩) ns.length qc] 29)).alloc (.cells #[.slice none 0 0, .int .i64 0, .int .i8 0] 67)) := ((Fr.refl _ w).alloc _).alloc _
  have hlt := htab.lt
  have h1 := newWriter (w.heap.size + 1) 0 _ hb1 (htab.fr hf1 (fun h => h)) (by omega)
  have hbox : ((w.alloc (.cells #[.int .i64 rev, .slice (some ⟨qg, 0, none⟩) ns.length qc] 29)).alloc (.cells #[.slice none 0 0, .int .i64 0, .int .i8 0] 67)).heap[w.heap.size]? = some (.cells #[.int .i64 rev, .slice (some ⟨qg, 0, none⟩) ns.length qc] 29 (0, 0)) := by
    rw [Below.heap_alloc _ _ _ (by simp)]; exact heap_alloc_new _ _
  have hsz : ((w.alloc (.cells #[.int .i64 rev, .slice (some ⟨qg, 0, none⟩) ns.length qc] 29)).alloc (.cells #[.slice none 0 0, .int .i64 0, .int .i8 0] 67)).heap.size = w.heap.size + 2 := by simp
  go_enter Tryd.func10, Tryd.ntmps10
  go_wp2_with (go_at_call 30; refine h1.mono ?_; rintro e w1 ⟨s, rfl, hsb, hI, hS, hfw⟩; refine Hid.out ?_)
  refine Lib.hid ?_
  have hf2 := hf1.trans hfw (fun _ e => e.elim)
  have hbox1 := hfw.heap hbox (fun e => e)
  have hS' : ∀ k, s.S k → w.heap.size + 1 ≤ k := fun k hk => by rcases hS k hk with e | e <;> omega
  have Hsb := Lib.hid hsb
  clear h1 hbox hf1 hfw hb1 hS hsz hsb
  have c0 : w1.cell? ⟨w.heap.size, 0, none⟩ = some (.int .i64 rev) := by rw [Lib.cell_of_heap hbox1]; rfl
  have c1 : w1.cell? ⟨w.heap.size, 1, none⟩ = some (.slice (some ⟨qg, 0, none⟩) ns.length qc) := by rw [Lib.cell_of_heap hbox1]; rfl
  have h2 := writeLookup s w1 [] rev ns qg qc w1 (Go.start hI) hrev hql (hf2.rows_kept hq (fun e => e)) hqi (by rw [← henc]; exact htot)
  rw [← henc] at h2
  have Hhenc := Lib.hid henc
  clear henc hq hqi
  go_wp2_with (go_at_call 31; refine h2.mono ?_; rintro e w2 ⟨rfl, s2, hn2, hI2, hf3⟩; refine Hid.out ?_)
  refine Lib.hid ?_
  clear h2 c0 c1 hbox1
  have h3 := rflush s2 _ w2 hI2 (by omega)
  rw [hn2.1] at h3
  go_wp2_with (go_at_call 32; refine h3.mono ?_; rintro e w3 ⟨rfl, v, hbf, hf4⟩; refine Hid.out ?_)
  refine Lib.hid ?_
  rw [hn2.2.2.1, Hsb.out] at hbf
  have h4 := bytes_of (w.heap.size + 1) v _ w3 hbf
  clear h3
  go_wp2_with (go_at_call 33; refine h4.mono ?_; rintro e w4 ⟨r, rfl, hown, n, rfl⟩; refine Hid.out ?_)
  refine Lib.hid ?_
  rcases hown.2 with ⟨rfl, h0⟩ | ⟨g, cap, cur, rfl, -, -, -, -, -, -⟩
  · clear h4
    go_wp2
    go_ret
    refine ⟨_, rfl, hown, ?_⟩
    exact (hf2.trans (hn2.fr hf3 hf4) (fun k hk => Or.inr (by have := hS' k hk; omega))).drewN _
  · clear h4
    go_wp2
    go_ret
    refine ⟨_, rfl, hown, ?_⟩
    exact (hf2.trans (hn2.fr hf3 hf4) (fun k hk => Or.inr (by have := hS' k hk; omega))).drewN _

theorem reads_n {g cap : Nat} {l p r : List UInt8} {q : Nd} (hl : l = p ++ (q.enc ++ r)) (hi : i64 q.weight) (hlen : l.length ≤ 1073741824) :
    ∃ a1 a2 a3 a4, NumAt g cap l.length l p.length 42 4 a1 ∧ BulkAt g cap l.length l a1 q.name a2 ∧ BulkAt g cap l.length l a2 q.addr a3 ∧ NumAt g cap l.length l a3 58 q.weight a4 ∧ BulkAt g cap l.length l a4 q.note (p ++ q.enc).length := by
  refine ⟨_, _, _, _, numAt (c := 42) (r := bulk q.name.data.toList ++ bulk q.addr.data.toList ++ num 58 q.weight ++ bulk q.note.data.toList ++ r) ?_ rfl ⟨by decide, by decide⟩ hlen,
    bulkAt (r := bulk q.addr.data.toList ++ num 58 q.weight ++ bulk q.note.data.toList ++ r) ?_ hlen, bulkAt (r := num 58 q.weight ++ bulk q.note.data.toList ++ r) ?_ hlen,
    numAt (c := 58) (r := bulk q.note.data.toList ++ r) ?_ rfl hi hlen, ?_⟩
  · rw [hl]; simp [Nd.enc]
  · rw [hl]; simp [Nd.enc]
  · rw [hl]; simp [Nd.enc]
  · rw [hl]; simp [Nd.enc]
  · have e : p ++ q.enc = (p ++ num 42 4 ++ bulk q.name.data.toList ++ bulk q.addr.data.toList ++ num 58 q.weight) ++ bulk q.note.data.toList := by simp [Nd.enc]
    rw [e]
    exact bulkAt (r := r) (by rw [hl]; simp [Nd.enc]) hlen

structure ReadsL (g cap : Nat) (l : List UInt8) (rev : Int) (ns : List Nd) (p0 a0 : Nat) (Pq : Nat → Nat) : Prop where
  h0 : NumAt g cap l.length l p0 58 rev a0
  h1 : NumAt g cap l.length l a0 42 (ns.length : Int) (Pq 0)
  hq : ∀ k q, ns[k]? = some q → ∃ a1 a2 a3 a4, NumAt g cap l.length l (Pq k) 42 4 a1 ∧ BulkAt g cap l.length l a1 q.name a2 ∧ BulkAt g cap l.length l a2 q.addr a3 ∧ NumAt g cap l.length l a3 58 q.weight a4 ∧ BulkAt g cap l.length l a4 q.note (Pq (k + 1))

theorem readsL (g cap : Nat) (l p r : List UInt8) (rev : Int) (ns : List Nd) (hl : l = p ++ (encList rev ns ++ r)) (hlen : l.length ≤ 1073741824) (hrev : i64 rev) (hql : ns.length ≤ 1048576)
    (hqi : ∀ q ∈ ns, i64 q.weight) : ∃ a0 Pq, ReadsL g cap l rev ns p.length a0 Pq ∧ Pq ns.length = (p ++ encList rev ns).length := by
  obtain ⟨P, p0, p1, p2⟩ := reads_list Nd.enc ns l (p ++ num 58 rev ++ num 42 ns.length) r (by rw [hl]; simp [encList])
  refine ⟨(p ++ num 58 rev).length, fun k => (P k).length, ⟨?_, ?_, ?_⟩, ?_⟩
  · exact numAt (c := 58) (r := num 42 ns.length ++ encAll Nd.enc ns ++ r) (by rw [hl]; simp [encList]) rfl hrev hlen
  · show NumAt _ _ _ _ _ _ _ (P 0).length
    rw [p0]
    exact numAt (c := 42) (r := encAll Nd.enc ns ++ r) (by rw [hl]; simp [encList]) rfl ⟨by omega, by omega⟩ hlen
  · intro k q hk
    obtain ⟨e, r', hr⟩ := p2 k q hk
    show ∃ a1 a2 a3 a4, _ ∧ _ ∧ _ ∧ _ ∧ BulkAt _ _ _ _ _ _ (P (k + 1)).length
    rw [e]
    exact reads_n hr (hqi q (List.mem_of_getElem? hk)) hlen
  · show (P ns.length).length = _
    rw [p1]; simp [encList]

set_option maxHeartbeats 4000000 in
set_option maxRecDepth 20000 in
theorem matchList (g cap : Nat) (l p r : List UInt8) (rev : Int) (ns : List Nd) (qa : Option Addr) (qc : Nat) (w : World) (hl : l = p ++ (encList rev ns ++ r)) (hlen : l.length ≤ 1073741824) (hby : BytesAt g l w) (hrev : i64 rev) (hql : ns.length ≤ 1048576)
    (hq : ARows qa 4 (ns.map Nd.cells) w) (hqi : ∀ q ∈ ns, i64 q.weight) (start : Int) (hst : start = (p.length : Int)) :
    Calls Tryd.prog 13 #[.slice (some ⟨g, 0, none⟩) l.length cap, .int .i64 start, .int .i64 rev, .slice qa ns.length qc] w fun e w' => e = .returned (.tuple #[.int .i64 ((p ++ encList rev ns).length : Int), .bool true]) ∧ Fr (fun _ => False) w w' := by
  subst hst
  obtain ⟨a0, Pq, hR, hend⟩ := readsL g cap l p r rev ns hl hlen hrev hql hqi
  have HR := Lib.hid hR
  have Hend := Lib.hid hend
  have Hby := Lib.hid hby
  have Hq := Lib.hid hq
  have h12 := HR.out.h0 w Hby.out
  clear hR hend hl hby hq hqi
  go_enter Tryd.func13, Tryd.ntmps13
  go_wp2_with (go_at_call 12; refine h12.mono ?_; rintro e w' ⟨rfl, rfl⟩; refine Hid.out ?_)
  refine Lib.hid ?_
  clear h12
  have h12 := HR.out.h1 w' Hby.out
  go_wp2_with (go_at_call 12; refine h12.mono ?_; rintro e w1 ⟨rfl, rfl⟩; refine Hid.out ?_)
  refine Lib.hid ?_
  clear h12
  go_wp2
  go_loopg [10, 11, 12, 13] ns.length (fun gk vv pv ov kv wr => ∃ (k : Nat) (v : Int), gk + k = ns.length ∧ kv = .int .i64 (k : Int) ∧ vv = .int .i64 v ∧ pv = .int .i64 (Pq k : Int) ∧ ov = .bool true ∧ BytesAt g l wr ∧ Fr (fun _ => False) w1 wr)
  case atStart => exact ⟨0, _, by omega, rfl, rfl, rfl, rfl, Hby.out, Fr.refl _ _⟩
  case round =>
    obtain ⟨k, v, hk, rfl, rfl, rfl, rfl, hby, hfr⟩ := hrel
    have Hk := Lib.hid hk
    have Hby1 := Lib.hid hby
    have Hfr := Lib.hid hfr
    clear hk hby hfr
    by_cases hlt : k < ns.length
    · have hqk : ns[k]? = some ns[k] := List.getElem?_eq_getElem hlt
      generalize ns[k] = q at hqk
      obtain ⟨a1, a2, a3, a4, n1, n2, n3, n4, n5⟩ := HR.out.hq k q hqk
      have hr : (ns.map Nd.cells)[k]? = some q.cells := by rw [List.getElem?_map, hqk]; rfl
      have hlti : (k : Int) < (ns.length : Int) := by omega
      have hk0 : (0 : Int) ≤ (k : Int) := by omega
      have Hc : Hid (∃ b o, qa = some ⟨b, o, none⟩ ∧ ∀ W, Fr (fun _ => False) w1 W → W.cell? ⟨b, o + k * 4, none⟩ = some (.string q.name) ∧ W.cell? ⟨b, o + k * 4 + 1, none⟩ = some (.string q.addr) ∧ W.cell? ⟨b, o + k * 4 + 2, none⟩ = some (.int .i64 q.weight) ∧ W.cell? ⟨b, o + k * 4 + 3, none⟩ = some (.string q.note)) := by
        refine Lib.hid ?_
        rcases Hq.out with he | ⟨b, o, rfl, hb, hc⟩
        · rw [he] at hr; simp at hr
        · refine ⟨b, o, rfl, fun W f => ⟨?_, f.cell (hc k _ hr 1 _ rfl) (fun h => h), f.cell (hc k _ hr 2 _ rfl) (fun h => h), f.cell (hc k _ hr 3 _ rfl) (fun h => h)⟩⟩
          have := f.cell (hc k _ hr 0 _ rfl) (fun h => h)
          simpa using this
      obtain ⟨qb, qo, rfl, hc⟩ := Hc.out
      have HC := Lib.hid hc
      obtain ⟨c0, -, -, -⟩ := hc wr Hfr.out
      have N2 := Lib.hid n2
      have N3 := Lib.hid n3
      have N4 := Lib.hid n4
      have N5 := Lib.hid n5
      have h12 := n1 wr Hby1.out
      clear n1 n2 n3 n4 n5 hc hqk hr Hc
      go_wp2_with (go_at_call 12; refine h12.mono ?_; rintro e w' ⟨rfl, rfl⟩; refine Hid.out ?_)
      refine Lib.hid ?_
      clear h12
      have h26 := N2.out w' Hby1.out
      go_wp2_with (go_at_call 26; refine h26.mono ?_; rintro e w6 ⟨rfl, hby6, hf6⟩; refine Hid.out ?_)
      refine Lib.hid ?_
      have Hby6 := Lib.hid hby6
      have Hf6 := Lib.hid (Hfr.out.trans hf6 (fun _ h => Or.inl h))
      obtain ⟨-, c1, -, -⟩ := HC.out w6 Hf6.out
      clear h26 hby6 hf6 c0
      have h26 := N3.out w6 Hby6.out
      go_wp2_with (go_at_call 26; refine h26.mono ?_; rintro e w7 ⟨rfl, hby7, hf7⟩; refine Hid.out ?_)
      refine Lib.hid ?_
      have Hby7 := Lib.hid hby7
      have Hf7 := Lib.hid (Hf6.out.trans hf7 (fun _ h => Or.inl h))
      obtain ⟨-, -, c2, c3⟩ := HC.out w7 Hf7.out
      clear h26 hby7 hf7 c1
      have h12 := N4.out w7 Hby7.out
      go_wp2_with (go_at_call 12; refine h12.mono ?_; rintro e w' ⟨rfl, rfl⟩; refine Hid.out ?_)
      refine Lib.hid ?_
      clear h12
      have h26 := N5.out w' Hby7.out
      go_wp2_with (go_at_call 26; refine h26.mono ?_; rintro e w8 ⟨rfl, hby8, hf8⟩; refine Hid.out ?_)
      refine Lib.hid ?_
      have Hby8 := Lib.hid hby8
      have Hf8 := Lib.hid (Hf7.out.trans hf8 (fun _ h => Or.inl h))
      clear h26 hby8 hf8 c2 c3
      go_wp2
      go_roundg (gk - 1)
      case measure => have := Hk.out; omega
      case rel => exact ⟨k + 1, _, by have := Hk.out; omega, by go_num, rfl, rfl, rfl, Hby8.out, Hf8.out⟩
    · have hleq : (ns.length : Int) ≤ (k : Int) := by have := Hk.out; omega
      have hkq : k = ns.length := by have := Hk.out; omega
      have hPk : (Pq k : Int) = ((p ++ encList rev ns).length : Int) := by rw [hkq, Hend.out]
      rw [hPk]
      clear hkq hPk
      go_wp2
      go_ret2
      exact ⟨rfl, Hfr.out⟩

set_option maxHeartbeats 1000000 in
set_option maxRecDepth 20000 in
theorem sameBytes (g1 c1 g2 c2 : Nat) (l : List UInt8) (w : World) (h1 : BytesAt g1 l w) (h2 : BytesAt g2 l w) (hlen : l.length ≤ 1099511627776) :
    Calls Tryd.prog 16 #[.slice (some ⟨g1, 0, none⟩) l.length c1, .slice (some ⟨g2, 0, none⟩) l.length c2] w fun e w' => e = .returned (.bool true) ∧ ∃ n, w' = w.drewN n := by
  have H1 := Lib.hid h1
  have H2 := Lib.hid h2
  clear h1 h2
  go_enter Tryd.func16, Tryd.ntmps16
  go_wp2
  go_loopg [5] l.length (fun gk kv wr => ∃ k n : Nat, gk + k = l.length ∧ kv = .int .i64 (k : Int) ∧ wr = w.drewN n)
  case atStart => exact ⟨0, 0, by omega, rfl, rfl⟩
  case round =>
    obtain ⟨k, n, hk, rfl, rfl⟩ := hrel
    have Hk := Lib.hid hk
    clear hk
    by_cases hlt : k < l.length
    · have hlk : l[k]? = some l[k] := List.getElem?_eq_getElem hlt
      have a1 := H1.out k _ hlk
      have a2 := H2.out k _ hlk
      generalize l[k] = b at a1 a2
      have hlti : (k : Int) < (l.length : Int) := by omega
      have hk0 : (0 : Int) ≤ (k : Int) := by omega
      clear hlk
      go_wp2
      go_quiet (fail)
      go_wp2
      go_roundg (gk - 1)
      case measure => have := Hk.out; omega
      case rel => exact ⟨k + 1, _, by have := Hk.out; omega, by go_num, rfl⟩
    · have hle : (l.length : Int) ≤ (k : Int) := by have := Hk.out; omega
      go_wp2
      go_ret
      exact ⟨rfl, _, rfl⟩
end Go.Proofs.Qxb6614442aDoor
