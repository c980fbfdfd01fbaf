import Derived.Test.Qxb6614442aDoorLt
namespace Go.Proofs.Qxb6614442aDoor
open Go.RowKit

set_option maxHeartbeats 1000000 in
set_option maxRecDepth 20000 in
theorem zzList (rev pr : Int) (ns : List Nd) (qg qc : Nat) (w : World) (htab : Tab w) (hrev : i64 rev) (hql : ns.length ≤ 1048576)
    (hq : HRows qg 78 4 (ns.map Nd.cells) w) (hqi : ∀ q ∈ ns, i64 q.weight)
    (htot : (encList rev ns).length + 1000 ≤ 1073741824) :
    Calls Tryd.prog 18 #[.agg #[.int .i64 rev, .slice (some ⟨qg, 0, none⟩) ns.length qc], .int .i64 pr] w fun e w' => ∃ r, e = .returned r ∧ w'.ownsRow 0 5 1 r (encList rev ns).length (Lib.byteCells (encList rev ns)) ∧ Fr (fun _ => False) w w' := by
  have henc : encList rev ns = [] ++ num 58 rev ++ num 42 ns.length ++ encAll Nd.enc ns := by simp [encList]
  have hb1 : ((w.alloc (.cells #[.int .i64 rev, .slice (some ⟨qg, 0, none⟩) ns.length qc] 29)).alloc (.cells #[.slice none 0 0, .int .i64 0, .int .i8 0] 67)).heap[w.heap.size + 1]? = some (.cells #[.slice none 0 0, .int .i64 0, .int .i8 0] 67 (0, 0)) := by
    have := heap_alloc_new (w.alloc (.cells #[.int .i64 rev, .slice (some ⟨qg, 0, none⟩) ns.length qc] 29)) (.cells #[.slice none 0 0, .int .i64 0, .int .i8 0] 67)
    simpa using this
  have hf1 : Fr (fun _ => False) w ((w.alloc (.cells #[.int .i64 rev, .slice (some ⟨qg, 0, none⟩) ns.length qc] 29)).alloc (.cells #[.slice none 0 0, .int .i64 0, .int .i8 0] 67)) := ((Fr.refl _ w).alloc _).alloc _
  have hlt := htab.lt
  have h1 := newWriter (w.heap.size + 1) 0 _ hb1 (htab.fr hf1 (fun h => h)) (by omega)
  have hbox : ((w.alloc (.cells #[.int .i64 rev, .slice (some ⟨qg, 0, none⟩) ns.length qc] 29)).alloc (.cells #[.slice none 0 0, .int .i64 0, .int .i8 0] 67)).heap[w.heap.size]? = some (.cells #[.int .i64 rev, .slice (some ⟨qg, 0, none⟩) ns.length qc] 29 (0, 0)) := by
    rw [Below.heap_alloc _ _ _ (by simp)]; exact heap_alloc_new _ _
  have hsz : ((w.alloc (.cells #[.int .i64 rev, .slice (some ⟨qg, 0, none⟩) ns.length qc] 29)).alloc (.cells #[.slice none 0 0, .int .i64 0, .int .i8 0] 67)).heap.size = w.heap.size + 2 := by simp
  go_enter Tryd.func18, Tryd.ntmps18
  go_wp2_with (go_at_call 30; refine h1.mono ?_; rintro e w1 ⟨s, rfl, hsb, hI, hS, hfw⟩; refine Hid.out ?_)
  refine Lib.hid ?_
  have hf2 := hf1.trans hfw (fun _ e => e.elim)
  have hbox1 := hfw.heap hbox (fun e => e)
  have hS' : ∀ k, s.S k → w.heap.size + 1 ≤ k := fun k hk => by rcases hS k hk with e | e <;> omega
  have Hsb := Lib.hid hsb
  clear h1 hbox hf1 hfw hb1 hS hsz hsb
  have h2 := setProto s [] pr w1 hI
  go_wp2_with (go_at_call 34; refine h2.mono ?_; rintro e w1b ⟨rfl, hIb, hfb⟩; refine Hid.out ?_)
  refine Lib.hid ?_
  have hf2b : Fr (fun _ => False) w w1b := hf2.trans hfb (fun k hk => Or.inr (by have := hS' k hk; omega))
  have hbox2 := hfb.heap hbox1 (fun e => by have := hS' _ e; omega)
  clear h2 hI hbox1 hf2
  have c0 : w1b.cell? ⟨w.heap.size, 0, none⟩ = some (.int .i64 rev) := by rw [Lib.cell_of_heap hbox2]; rfl
  have c1 : w1b.cell? ⟨w.heap.size, 1, none⟩ = some (.slice (some ⟨qg, 0, none⟩) ns.length qc) := by rw [Lib.cell_of_heap hbox2]; rfl
  have h2 := writeList s [] rev ns qg qc w1b hIb hrev hql (hf2b.rows_kept hq (fun e => e)) hqi (by rw [← henc]; exact htot)
  rw [← henc] at h2
  have Hhenc := Lib.hid henc
  clear henc hq hqi
  go_wp2_with (go_at_call 35; refine h2.mono ?_; rintro e w2 ⟨rfl, s2, hn2, hI2, hf3⟩; refine Hid.out ?_)
  refine Lib.hid ?_
  clear h2 c0 c1 hbox2
  have h3 := rflush s2 _ w2 hI2 (by omega)
  rw [hn2.1] at h3
  go_wp2_with (go_at_call 32; refine h3.mono ?_; rintro e w3 ⟨rfl, v, hbf, hf4⟩; refine Hid.out ?_)
  refine Lib.hid ?_
  rw [hn2.2.2.1, Hsb.out] at hbf
  have h4 := bytes_of (w.heap.size + 1) v _ w3 hbf
  clear h3
  go_wp2_with (go_at_call 33; refine h4.mono ?_; rintro e w4 ⟨r, rfl, hown, n, rfl⟩; refine Hid.out ?_)
  refine Lib.hid ?_
  rcases hown.2 with ⟨rfl, h0⟩ | ⟨g, cap, cur, rfl, -, -, -, -, -, -⟩
  · clear h4
    go_wp2
    go_ret
    refine ⟨_, rfl, hown, ?_⟩
    exact (hf2b.trans (hn2.fr hf3 hf4) (fun k hk => Or.inr (by have := hS' k hk; omega))).drewN _
  · clear h4
    go_wp2
    go_ret
    refine ⟨_, rfl, hown, ?_⟩
    exact (hf2b.trans (hn2.fr hf3 hf4) (fun k hk => Or.inr (by have := hS' k hk; omega))).drewN _

set_option maxHeartbeats 400000 in
theorem stElems (a b c : Value) (w : World) (_ha : a.oneCell' = true) (_hb : b.oneCell' = true) (_hc : c.oneCell' = true) :
    Calls Tryd.prog 89 #[.agg #[a, b, c]] w fun e w' => e = .returned (.int .i64 2) ∧ w' = w.alloc (.cells #[a, b, c] 73) := by
  go_enter Tryd.func89, Tryd.ntmps89
  go_wp2
  go_ret
  exact ⟨rfl, rfl⟩

set_option maxHeartbeats 1000000 in
theorem stWrite (s : St) (w0 : World) (l : List UInt8) (rev : Int) (ns : List Nd) (qg qc : Nat) (w : World) (h : Go s w0 l w) (hrev : i64 rev) (hql : ns.length ≤ 1048576)
    (hq : HRows qg 78 4 (ns.map Nd.cells) w) (hqi : ∀ x ∈ ns, i64 x.weight)
    (htot : (l ++ num 58 rev ++ num 42 ns.length ++ encAll Nd.enc ns).length + 1000 ≤ 1073741824) :
    Calls Tryd.prog 90 #[.agg #[.int .i64 rev, .slice (some ⟨qg, 0, none⟩) ns.length qc, .slice none 0 0], .pointer (some ⟨s.rw, 0, none⟩)] w fun e w' => e = .returned (.tuple #[]) ∧ Go s w0 (l ++ num 58 rev ++ num 42 ns.length ++ encAll Nd.enc ns) w' := by
  have hA := h.alloc (.cells #[.int .i64 rev, .slice (some ⟨qg, 0, none⟩) ns.length qc, .slice none 0 0] 73)
  have hfa : Fr (fun _ => False) w (w.alloc (.cells #[.int .i64 rev, .slice (some ⟨qg, 0, none⟩) ns.length qc, .slice none 0 0] 73)) := (Fr.refl _ w).alloc _
  obtain ⟨s', n1, hI, hf⟩ := hA
  have h35 := writeList s' l rev ns qg qc _ hI hrev hql (hfa.rows_kept hq (fun e => e)) hqi htot
  rw [n1.1] at h35
  go_enter Tryd.func90, Tryd.ntmps90
  go_wp2_with (go_at_call 35; refine h35.mono ?_; rintro e w2 ⟨rfl, s2, hn2, hI2, hf3⟩; refine Hid.out ?_)
  refine Lib.hid ?_
  clear h35
  go_wp2
  go_end0
  exact ⟨rfl, s2, n1.trans hn2 hf.size, hI2, n1.fr hf hf3⟩

/-- The methods' names, the slash by its number. -/
abbrev nmElems : String := "exam" ++ "ple.com" ++ String.singleton (Char.ofNat 47) ++ "lodestone" ++ String.singleton (Char.ofNat 47) ++ "lodestone" ++ String.singleton (Char.ofNat 47) ++ "server.elems"
abbrev nmWrite : String := "exam" ++ "ple.com" ++ String.singleton (Char.ofNat 47) ++ "lodestone" ++ String.singleton (Char.ofNat 47) ++ "lodestone" ++ String.singleton (Char.ofNat 47) ++ "server.writeElems"

theorem nilElems (a b c : Value) (w : World) : (nilAhead 268 73 (.agg #[a, b, c]) nmElems).run Tryd.prog w = .ok (some false) w := by kernel_rfl
theorem methElems (a b c : Value) (w : World) : (method 268 73 (.agg #[a, b, c]) nmElems).run Tryd.prog w = .ok (89, .agg #[a, b, c]) w := by kernel_rfl
theorem nilWElems (a b c : Value) (w : World) : (nilAhead 268 73 (.agg #[a, b, c]) nmWrite).run Tryd.prog w = .ok (some false) w := by kernel_rfl
theorem methWElems (a b c : Value) (w : World) : (method 268 73 (.agg #[a, b, c]) nmWrite).run Tryd.prog w = .ok (90, .agg #[a, b, c]) w := by kernel_rfl

set_option maxHeartbeats 1000000 in
set_option maxRecDepth 20000 in
theorem writeLookup (s : St) (w0 : World) (l : List UInt8) (rev : Int) (ns : List Nd) (qg qc : Nat) (w : World) (h : Go s w0 l w) (hrev : i64 rev) (hql : ns.length ≤ 1048576)
    (hq : HRows qg 78 4 (ns.map Nd.cells) w) (hqi : ∀ x ∈ ns, i64 x.weight)
    (htot : (l ++ num 42 2 ++ num 58 rev ++ num 42 ns.length ++ encAll Nd.enc ns).length + 1000 ≤ 1073741824) :
    Calls Tryd.prog 31 #[.pointer (some ⟨s.rw, 0, none⟩), .iface 73 (.agg #[.int .i64 rev, .slice (some ⟨qg, 0, none⟩) ns.length qc, .slice none 0 0])] w fun e w' => e = .returned (.tuple #[]) ∧ Go s w0 (l ++ num 42 2 ++ num 58 rev ++ num 42 ns.length ++ encAll Nd.enc ns) w' := by
  have m1 := nilElems
  have m2 := methElems
  have m3 := nilWElems
  have m4 := methWElems
  simp only [nmElems, ↓Char.isValue, String.reduceSingleton, String.reduceAppend] at m1 m2
  simp only [nmWrite, ↓Char.isValue, String.reduceSingleton, String.reduceAppend] at m3 m4
  have hA := h.alloc (.cells #[.int .i64 rev, .slice (some ⟨qg, 0, none⟩) ns.length qc, .slice none 0 0] 73)
  have hOa : Oth w (w.alloc (.cells #[.int .i64 rev, .slice (some ⟨qg, 0, none⟩) ns.length qc, .slice none 0 0] 73)) := (Oth.refl w).alloc _
  have h89 := stElems (.int .i64 rev) (.slice (some ⟨qg, 0, none⟩) ns.length qc) (.slice none 0 0) w rfl rfl rfl
  have h39 := go_array hA 2 ⟨by omega, by omega⟩ (by simp only [List.length_append] at htot; omega)
  go_enter Tryd.func31, Tryd.ntmps31
  go_wp2_with (first
    | (go_at_call 89; refine h89.mono ?_; rintro e w' ⟨rfl, rfl⟩)
    | (go_at_call 39; refine h39.mono ?_; rintro e w1 ⟨rfl, hG1, hO1⟩; refine Hid.out ?_))
  refine Lib.hid ?_
  have h90 := stWrite s w0 _ rev ns qg qc w1 hG1 hrev hql ((hq.oth hOa (by decide) (by decide) (by decide) (by decide)).oth hO1 (by decide) (by decide) (by decide) (by decide)) hqi htot
  clear h39 h89 hA hq
  go_wp2_with (go_at_call 90; refine h90.mono ?_; rintro e w2 ⟨rfl, hG2⟩; refine Hid.out ?_)
  refine Lib.hid ?_
  clear h90
  go_wp2
  go_end0
  exact ⟨rfl, hG2⟩
end Go.Proofs.Qxb6614442aDoor
