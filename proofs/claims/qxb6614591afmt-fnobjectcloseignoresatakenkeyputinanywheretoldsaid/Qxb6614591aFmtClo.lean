import Derived.Test.Qxb6614591aFmtNo
namespace Go.Proofs.Qxb6614591aFmt
open Go.RowKit Go.WideMaps Go.Maps Go.Extern.Stop Go.Stop Go.Extern

/-- close's answer: an error exactly where failed, or a key is left. -/
def CloseSaid (ks ls : List ByteArray) (f : Bool) (w : World) (e : Ending) (w' : World) : Prop :=
  ∃ (b : Bool) (v : Value), e = .returned v ∧ ErrCell b v ∧ (b = true ↔ (f = true ∨ ∃ k ∈ ks, k ∈ ls)) ∧ Below w.heap.size w w'

set_option maxHeartbeats 1000000 in
set_option maxRecDepth 20000 in
theorem close29 (F : Interp) (ob : Nat) (p : Option Addr) (c : Nat) (ks ls : List ByteArray) (f : Bool) (w : World) (hF : F.answers w.tape) (hkl : ks.length ≤ 1048577) (hK : Strs p ks w) (hO : ObjAt w ob p ks.length c ls f) (hks : ∀ s ∈ ks, s.size ≤ 9223372036854775807) :
    Calls Tryf.prog 29 #[.pointer (some ⟨ob, 0, none⟩)] w (CloseSaid ks ls f w) := by
  obtain ⟨mb, ev, c0, c1, c2, hev, hR⟩ := hO
  have Hks := Lib.hid hks
  have HR := Lib.hid hR
  clear hks hR
  cases f with
  | true =>
    obtain ⟨t, x, rfl⟩ := hev
    go_enter Tryf.func29, Tryf.ntmps29
    go_wp2
    go_ret
    exact ⟨true, _, rfl, ⟨t, x, rfl⟩, by simp, Below.refl _ _⟩
  | false =>
    have hev' : ev = .nilIface := hev
    subst hev'
    clear hev
    go_enter Tryf.func29, Tryf.ntmps29
    go_wp2
    go_loopg [21] ks.length (fun gk kv wr => ∃ k : Nat, gk + k = ks.length ∧ kv = .int .i64 (k : Int) ∧ (∀ s ∈ ks.take k, ¬ s ∈ ls) ∧ w = wr)
    case atStart => exact ⟨0, by omega, rfl, by simp, rfl⟩
    case round =>
      obtain ⟨k, hk, rfl, hn, hw⟩ := hrel
      subst hw
      have Hk := Lib.hid hk
      have Hn := Lib.hid hn
      clear hk hn
      by_cases hlt : k < ks.length
      · have hqk : ks[k]? = some ks[k] := List.getElem?_eq_getElem hlt
        generalize ks[k] = q at hqk
        have hlti : (k : Int) < (ks.length : Int) := by omega
        have hk0 : (0 : Int) ≤ (k : Int) := by omega
        have hs1 := Hks.out q (List.mem_of_getElem? hqk)
        rcases hK with he | ⟨qb, qo, rfl, hqb, hc⟩
        · rw [he] at hqk; simp at hqk
        have a0 := hc k _ hqk
        have HQ := Lib.hid hqk
        clear hc hqk
        by_cases hin : q ∈ ls
        · have h32 := errorf F q w.heap.size (w.alloc (.cells #[.iface 9 (.string q)] 20)) hF (by go_simp)
          go_wp2_with (at_lookup; refine wpList_look75 _ rfl _ _ rfl mb ls rfl (Hid.out HR) q rfl hs1 true (by simpa using hin) ?_; intro v; refine Hid.out ?_)
          refine Lib.hid ?_
          go_wp2_with (go_at_call 32; refine h32.mono ?_; rintro e w1 ⟨t, v, rfl, hB1⟩; refine Hid.out ?_)
          refine Lib.hid ?_
          clear h32
          have HB1 := Lib.hid hB1
          clear hB1
          go_wp2
          go_ret
          exact ⟨true, _, rfl, ⟨t, v, rfl⟩, by simp only [true_iff]; exact Or.inr ⟨q, List.mem_of_getElem? (Hid.out HQ), hin⟩, ((Below.refl _ _).alloc (Nat.le_refl _) _).trans ((Hid.out HB1).mono (by simp))⟩
        · go_wp2_with (at_lookup; refine wpList_look75 _ rfl _ _ rfl mb ls rfl (Hid.out HR) q rfl hs1 false (by simpa using hin) ?_; intro v; refine Hid.out ?_)
          refine Lib.hid ?_
          go_wp2
          go_roundg (gk - 1)
          case measure => have := Hk.out; omega
          case rel =>
            refine ⟨k + 1, by have := Hk.out; omega, by go_num, ?_, rfl⟩
            rw [take_snoc _ _ _ (Hid.out HQ)]
            intro s hs
            rcases List.mem_append.1 hs with h | h
            · exact Hid.out Hn s h
            · rw [List.mem_singleton.1 h]; exact hin
      · have hleq : (ks.length : Int) ≤ (k : Int) := by have := Hk.out; omega
        go_wp2
        go_ret
        refine ⟨false, .nilIface, rfl, rfl, ?_, Below.refl _ _⟩
        have hn := Hid.out Hn
        rw [List.take_of_length_le (by omega)] at hn
        constructor
        · intro h; cases h
        · rintro (h | ⟨s, h1, h2⟩)
          · cases h
          · exact absurd h2 (hn s h1)

set_option maxHeartbeats 1000000 in
set_option maxRecDepth 20000 in
theorem closeObject (F : Interp) (ob : Nat) (p : Option Addr) (c : Nat) (ks ls : List ByteArray) (f : Bool) (w : World) (hF : F.answers w.tape) (hkl : ks.length ≤ 1048577) (hK : Strs p ks w) (hO : ObjAt w ob p ks.length c ls f) (hks : ∀ s ∈ ks, s.size ≤ 9223372036854775807) :
    Calls Tryf.prog 17 #[.pointer (some ⟨ob, 0, none⟩)] w (CloseSaid ks ls f w) := by
  have h29 := close29 F ob p c ks ls f w hF hkl hK hO hks
  clear hO hK hks hF
  go_enter Tryf.func17, Tryf.ntmps17
  go_wp2_with (go_at_call 29; refine h29.mono ?_; rintro e w1 ⟨b, v, rfl, hv, hb, hB⟩; refine Hid.out ?_)
  refine Lib.hid ?_
  clear h29
  have H := Lib.hid (And.intro hv (And.intro hb hB))
  clear hv hb hB
  go_wp2
  go_ret
  exact ⟨b, v, rfl, (Hid.out H).1, (Hid.out H).2.1, (Hid.out H).2.2⟩
end Go.Proofs.Qxb6614591aFmt
