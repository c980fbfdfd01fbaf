import Derived.Test.Qxb6614591aFmtMp
namespace Go.Proofs.Qxb6614591aFmt
open Go.RowKit Go.WideMaps Go.Maps

theorem take_snoc {α : Type} (l : List α) (k : Nat) (x : α) (h : l[k]? = some x) : l.take (k + 1) = l.take k ++ [x] := by
  rw [List.take_add_one, h]; rfl

theorem Strs.belowB {p : Option Addr} {xs : List ByteArray} {w w' : World} {B : Nat} (h : Strs p xs w) (hB : Below B w w') (hs : w.heap.size ≤ B) : Strs p xs w' := h.below (hB.mono hs)

set_option maxHeartbeats 1000000 in
set_option maxRecDepth 20000 in
theorem zzAllIn (ls ks : List ByteArray) (pl pk : Option Addr) (cl ck : Nat) (w : World) (hll : ls.length ≤ 1048576) (hkl : ks.length ≤ 1048576) (hL : Strs pl ls w) (hK : Strs pk ks w)
    (hls : ∀ s ∈ ls, s.size ≤ 9223372036854775807) (hks : ∀ s ∈ ks, s.size ≤ 9223372036854775807) :
    Calls Tryf.prog 14 #[.slice pl ls.length cl, .slice pk ks.length ck] w (fun e w' => ∃ c : Bool, e = .returned (.bool c) ∧ (c = true → ∀ s ∈ ls, s ∈ ks) ∧ Below w.heap.size w w') := by
  have Hks := Lib.hid hks
  have Hls := Lib.hid hls
  clear hks hls
  have hmm := make73
  go_enter Tryf.func14, Tryf.ntmps14
  go_wp2
  go_loopg [6] ks.length (fun gk kv wr => ∃ k : Nat, gk + k = ks.length ∧ kv = .int .i64 (k : Int) ∧ BSet wr w.heap.size (ks.take k) ∧ Below w.heap.size w wr)
  case atStart => exact ⟨0, by omega, rfl, World.ownsMap_made _ _ _ _, (Below.refl _ _).alloc (Nat.le_refl _) _⟩
  case round =>
    clear hmm
    obtain ⟨k, hk, rfl, hown, hB⟩ := hrel
    have Hk := Lib.hid hk
    clear hk
    by_cases hlt : k < ks.length
    · have hqk : ks[k]? = some ks[k] := List.getElem?_eq_getElem hlt
      generalize ks[k] = q at hqk
      have hlti : (k : Int) < (ks.length : Int) := by omega
      have hk0 : (0 : Int) ≤ (k : Int) := by omega
      have hs1 := Hks.out q (List.mem_of_getElem? hqk)
      have HB := Lib.hid hB
      have HO := Lib.hid hown
      rcases hK.below hB with he | ⟨qb, qo, rfl, hqb, hc⟩
      · rw [he] at hqk; simp at hqk
      have a0 := hc k _ hqk
      have HQ := Lib.hid hqk
      clear hc hqk hB hown
      go_wp2_with (at_mapUpdate; refine wpList_put73 _ rfl _ _ _ rfl w.heap.size (ks.take k) rfl (Hid.out HO) (by rw [List.length_take]; omega) q rfl rfl hs1 ?_; intro w1 hown1 hgrow1; refine Hid.out ?_)
      refine Lib.hid ?_
      have HO1 := Lib.hid hown1
      have HB1 := Lib.hid ((Hid.out HB).grown hgrow1 (Hid.out HB).size (fun j hj => by cases hj; exact Nat.le_refl _))
      clear hown1 hgrow1 a0
      go_wp2
      go_roundg (gk - 1)
      case measure => have := Hk.out; omega
      case rel => exact ⟨k + 1, by have := Hk.out; omega, by go_num, by rw [take_snoc _ _ _ (Hid.out HQ)]; exact Hid.out HO1, Hid.out HB1⟩
    · have hleq : (ks.length : Int) ≤ (k : Int) := by have := Hk.out; omega
      rw [List.take_of_length_le (by omega)] at hown
      have HB := Lib.hid hB
      have HO := Lib.hid hown
      have hL1 := hL.below hB
      clear hB hown hL hK
      go_wp2
      go_loopg [7] ls.length (fun gk kv w2 => ∃ k : Nat, gk + k = ls.length ∧ kv = .int .i64 (k : Int) ∧ (∀ s ∈ ls.take k, s ∈ ks) ∧ wr = w2)
      case atStart => exact ⟨0, by omega, rfl, by simp, rfl⟩
      case round =>
        clear hlt hleq Hk
        obtain ⟨k, hk, rfl, hall, hw⟩ := hrel
        subst hw
        have Hk := Lib.hid hk
        have HA := Lib.hid hall
        clear hk hall
        by_cases hlt : k < ls.length
        · have hqk : ls[k]? = some ls[k] := List.getElem?_eq_getElem hlt
          generalize ls[k] = q at hqk
          have hlti : (k : Int) < (ls.length : Int) := by omega
          have hk0 : (0 : Int) ≤ (k : Int) := by omega
          have hs1 := Hls.out q (List.mem_of_getElem? hqk)
          rcases hL1 with he | ⟨qb, qo, rfl, hqb, hc⟩
          · rw [he] at hqk; simp at hqk
          have a0 := hc k _ hqk
          have HQ := Lib.hid hqk
          clear hc hqk
          by_cases hin : q ∈ ks
          · go_wp2_with (at_lookup; refine wpList_look73 _ rfl _ _ rfl w.heap.size ks rfl (Hid.out HO) q rfl hs1 true (by simpa using hin) ?_; refine Hid.out ?_)
            refine Lib.hid ?_
            go_wp2
            go_roundg (gk - 1)
            case measure => have := Hk.out; omega
            case rel =>
              refine ⟨k + 1, by have := Hk.out; omega, by go_num, ?_, rfl⟩
              rw [take_snoc _ _ _ (Hid.out HQ)]
              intro s hs
              rcases List.mem_append.1 hs with h | h
              · exact Hid.out HA s h
              · rw [List.mem_singleton.1 h]; exact hin
          · go_wp2_with (at_lookup; refine wpList_look73 _ rfl _ _ rfl w.heap.size ks rfl (Hid.out HO) q rfl hs1 false (by simpa using hin) ?_; refine Hid.out ?_)
            refine Lib.hid ?_
            go_wp2
            go_ret
            exact ⟨false, rfl, fun h => (by cases h), Hid.out HB⟩
        · have hleq : (ls.length : Int) ≤ (k : Int) := by have := Hk.out; omega
          go_wp2
          go_ret
          refine ⟨true, rfl, fun _ => ?_, Hid.out HB⟩
          have := Hid.out HA
          rw [List.take_of_length_le (by omega)] at this
          exact this
end Go.Proofs.Qxb6614591aFmt
