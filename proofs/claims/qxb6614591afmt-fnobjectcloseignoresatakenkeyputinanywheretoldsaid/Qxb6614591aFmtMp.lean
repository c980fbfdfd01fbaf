import Derived.Test.Qxb6614591aFmtStrs
import Derived.Maps.OwnSet
import Derived.Maps.OwnOps
namespace Go.Proofs.Qxb6614591aFmt
open Go.RowKit Go.WideMaps Go.Maps

theorem law9 : Keyed Tryf.prog 9 := string_keyed Tryf.underlying9
theorem zero4 (w : World) : (zeroValue 4).run Tryf.prog w = .ok (.bool false) w := by kernel_rfl
theorem zero77 (w : World) : (zeroValue 77).run Tryf.prog w = .ok (.slice none 0 0) w := by kernel_rfl

abbrev Yes : DataW Unit := .lit (.bool true)
abbrev keyLit (s : ByteArray) : Lit := .string s.data.toList
def anyElem (_ : Value) : Option (DataW Unit × List MemPlace) := some (Yes, [])
abbrev SetD (xs : List ByteArray) : DataW Unit := setOf Yes (xs.map keyLit)
def BSet (w : World) (b : Nat) (xs : List ByteArray) : Prop := w.ownsMap Tryf.prog 9 (plainElem (H := Unit) Tryf.prog 4) b xs.length (SetD xs)
def RSet (w : World) (b : Nat) (xs : List ByteArray) : Prop := w.ownsMap Tryf.prog 9 anyElem b xs.length (SetD xs)

theorem key9 {s : ByteArray} (h : s.size ≤ 9223372036854775807) : keyOf Tryf.prog 9 (.string s) = some (keyLit s) := keyOf_string_mk Tryf.underlying9 (by unfold maxLen; omega)

theorem keyLit_inj {s t : ByteArray} (h : keyLit s = keyLit t) : s = t := by
  have h1 : s.data.toList = t.data.toList := by simpa using h
  have h2 : s.data = t.data := Array.toList_inj.1 h1
  cases s; cases t; simp at h2; rw [h2]

theorem isKey (s : ByteArray) : WideAt.IsKeyLit (keyLit s) := by simp [WideAt.IsKeyLit]

theorem has_set (xs : List ByteArray) (s : ByteArray) : has (SetD xs) (keyLit s) = true ↔ s ∈ xs := by
  rw [SetD, has_setOf _ _ _ (by intro x hx; obtain ⟨t, _, rfl⟩ := List.mem_map.1 hx; exact isKey t)]
  simp only [List.any_eq_true, List.mem_map]
  constructor
  · rintro ⟨x, ⟨t, ht, rfl⟩, hx⟩
    have := (WideAt.sameKey_iff (isKey s)).1 hx
    rw [← keyLit_inj this]; exact ht
  · intro h
    exact ⟨_, ⟨s, h, rfl⟩, WideAt.sameKey_self (isKey s)⟩

theorem setD_snoc (xs : List ByteArray) (s : ByteArray) : SetD (xs ++ [s]) = (SetD xs).put (keyLit s) Yes := by
  rw [SetD, List.map_append, List.map_singleton, setOf_snoc]

theorem isMap_setD (xs : List ByteArray) : IsMap (SetD xs) := (tidy_setOf _ _ (by intro x hx; obtain ⟨t, _, rfl⟩ := List.mem_map.1 hx; exact isKey t)).isMap

def AllYes (m : DataW Unit) : Prop := IsMap m ∧ ∀ (t : ByteArray) (z : DataW Unit), has m (keyLit t) = true → m.atKey (keyLit t) z = Yes

theorem AllYes.put {m : DataW Unit} (h : AllYes m) (s : ByteArray) : AllYes (m.put (keyLit s) Yes) := by
  refine ⟨h.1.put _ _, fun t z ht => ?_⟩
  by_cases e : keyLit t = keyLit s
  · rw [e, atKey_put_same h.1 (isKey s)]
  · rw [has_put_other e] at ht
    rw [atKey_put_other e]
    exact h.2 t z ht

theorem allYes_fold : ∀ (xs : List ByteArray) (m : DataW Unit), AllYes m → AllYes ((xs.map keyLit).foldl (fun m x => m.put x Yes) m)
  | [], _, h => h
  | x :: r, _, h => allYes_fold r _ (h.put x)

theorem allYes_set (xs : List ByteArray) : AllYes (SetD xs) := allYes_fold xs _ ⟨isMap_empty, fun t z h => by simp [has] at h⟩

theorem atKey_yes {xs : List ByteArray} {s : ByteArray} (h : s ∈ xs) (z : DataW Unit) : (SetD xs).atKey (keyLit s) z = Yes := (allYes_set xs).2 s z ((has_set xs s).2 h)
theorem atKey_no {xs : List ByteArray} {s : ByteArray} (h : ¬ s ∈ xs) (z : DataW Unit) : (SetD xs).atKey (keyLit s) z = z := by
  refine atKey_of_not_has ?_ z
  cases e : has (SetD xs) (keyLit s) with
  | false => rfl
  | true => exact absurd ((has_set xs s).1 e) h

theorem make73 (n : Int) (w : World) : (Instr.makeMap 73 (some (.int .i64 n))).run Tryf.prog w = .ok (.map (some w.heap.size)) (w.alloc (.map #[] 0)) := by kernel_rfl
theorem make75 (n : Int) (w : World) : (Instr.makeMap 75 (some (.int .i64 n))).run Tryf.prog w = .ok (.map (some w.heap.size)) (w.alloc (.map #[] 0)) := by kernel_rfl

theorem plainElem_bool_inv {P : Program} {e : TypeId} (he : P.underlying e = some .bool) {v : Value} {z : DataW Unit × List MemPlace} (h : plainElem P e v = some z) : ∃ x : Bool, v = .bool x ∧ z.1 = .lit (.bool x) := by
  unfold plainElem at h
  rw [he] at h
  cases v <;> simp at h
  exact ⟨_, rfl, by rw [← h]⟩

/-- 'in[x]' in a map[string]bool of the call's own. -/
theorem wpList_look73 (w : World) {ops : Array Oper} {rest : List Oper} {o : Oper} {a : Act} {Q : Exit → Act → World → Prop} (hg : o.guard = none) (m x : Operand) (hop : o.op = Op.lookup 73 m x false)
    (b : Nat) (xs : List ByteArray) (hm : a.eval m = .map (some b)) (hown : BSet w b xs) (s : ByteArray) (hx : a.eval x = .string s) (hs : s.size ≤ 9223372036854775807) (c : Bool) (hc : c = true ↔ s ∈ xs)
    (hK : wpList Tryf.prog ops Q rest (a.put o.dst (.bool c)) w) : wpList Tryf.prog ops Q (o :: rest) a w := by
  refine wpList_plain hg fun K' hK' => ?_
  obtain ⟨v, ps, hrun, hv⟩ := hown.lookup law9 Tryf.underlying73 (zero4 w) (zd := .lit (.bool false)) (zp := []) (plainElem_bool Tryf.underlying4 false) (key9 hs)
  obtain ⟨y, rfl, hy⟩ := plainElem_bool_inv Tryf.underlying4 hv
  have e : y = c := by
    by_cases h : s ∈ xs
    · rw [atKey_yes h] at hy
      have : c = true := hc.2 h
      subst this
      simpa using hy.symm
    · rw [atKey_no h] at hy
      have : c = false := by cases c with | false => rfl | true => exact absurd (hc.1 rfl) h
      subst this
      simpa using hy.symm
  subst e
  unfold Oper.wp
  simp [execOp, hop, hm, hx, hrun, Result.andThen]
  exact hK' _ _ hK

/-- 'in[x] = true'. -/
theorem wpList_put73 (w : World) {ops : Array Oper} {rest : List Oper} {o : Oper} {a : Act} {Q : Exit → Act → World → Prop} (hg : o.guard = none) (m x v : Operand) (hop : o.op = Op.mapUpdate 73 m x v)
    (b : Nat) (xs : List ByteArray) (hm : a.eval m = .map (some b)) (hown : BSet w b xs) (hl : xs.length ≤ 1048576) (s : ByteArray) (hx : a.eval x = .string s) (hv : a.eval v = .bool true) (hs : s.size ≤ 9223372036854775807)
    (hK : ∀ w', BSet w' b (xs ++ [s]) → w.grownBy w' (some b) → wpList Tryf.prog ops Q rest (a.put o.dst undef) w') : wpList Tryf.prog ops Q (o :: rest) a w := by
  refine wpList_mapUpdate_own w hg m x v 73 hop 9 4 law9 Tryf.underlying73 _ b xs.length (SetD xs) hm hown (by unfold maxLen; omega) _ _ (keyLit s) hx hv (key9 hs) Yes [] (plainElem_bool Tryf.underlying4 true) ?_
  intro w' h1 h2
  refine hK w' ?_ h2
  unfold BSet
  rw [setD_snoc, List.length_append]
  exact h1

/-- 'values[key] = ..'. -/
theorem wpList_put75 (w : World) {ops : Array Oper} {rest : List Oper} {o : Oper} {a : Act} {Q : Exit → Act → World → Prop} (hg : o.guard = none) (m x v : Operand) (hop : o.op = Op.mapUpdate 75 m x v)
    (b : Nat) (xs : List ByteArray) (hm : a.eval m = .map (some b)) (hown : RSet w b xs) (hl : xs.length ≤ 1048576) (s : ByteArray) (hx : a.eval x = .string s) (hs : s.size ≤ 9223372036854775807)
    (hK : ∀ w', RSet w' b (xs ++ [s]) → w.grownBy w' (some b) → wpList Tryf.prog ops Q rest (a.put o.dst undef) w') : wpList Tryf.prog ops Q (o :: rest) a w := by
  refine wpList_mapUpdate_own w hg m x v 75 hop 9 77 law9 Tryf.underlying75 anyElem b xs.length (SetD xs) hm hown (by unfold maxLen; omega) _ _ (keyLit s) hx rfl (key9 hs) Yes [] rfl ?_
  intro w' h1 h2
  refine hK w' ?_ h2
  unfold RSet
  rw [setD_snoc, List.length_append]
  exact h1

/-- '_, left := o.values[key]'. -/
theorem wpList_look75 (w : World) {ops : Array Oper} {rest : List Oper} {o : Oper} {a : Act} {Q : Exit → Act → World → Prop} (hg : o.guard = none) (m x : Operand) (hop : o.op = Op.lookup 75 m x true)
    (b : Nat) (xs : List ByteArray) (hm : a.eval m = .map (some b)) (hown : RSet w b xs) (s : ByteArray) (hx : a.eval x = .string s) (hs : s.size ≤ 9223372036854775807) (c : Bool) (hc : c = true ↔ s ∈ xs)
    (hK : ∀ v, wpList Tryf.prog ops Q rest (a.put o.dst (.tuple #[v, .bool c])) w) : wpList Tryf.prog ops Q (o :: rest) a w := by
  refine wpList_lookup_own_ok w hg m x 75 hop 9 77 law9 Tryf.underlying75 anyElem (zero77 w) Yes [] rfl b xs.length (SetD xs) hm hown _ (keyLit s) hx (key9 hs) ?_
  intro v ps _
  have e : has (SetD xs) (keyLit s) = c := by rw [Bool.eq_iff_iff, has_set, hc]
  rw [e]
  exact hK v
end Go.Proofs.Qxb6614591aFmt
