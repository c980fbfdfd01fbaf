import Derived.Test.Qxb6614591aFmtIn
import Derived.Test.Qxb6614591aFmtErf
import Derived.Lib.SlBytesConst
namespace Go.Proofs.Qxb6614591aFmt
open Go.RowKit Go.WideMaps Go.Maps

/-- The err field: an error where failed, else nil. -/
def ErrCell (f : Bool) (v : Value) : Prop := match f with | true => ∃ t x, v = .iface t x | false => v = .nilIface

/-- Block ob is an object whose keys are the slice at p, whose members left are ls. -/
def ObjAt (w : World) (ob : Nat) (p : Option Addr) (n c : Nat) (ls : List ByteArray) (f : Bool) : Prop :=
  ∃ mb ev, w.cell? ⟨ob, 0, none⟩ = some (.slice p n c) ∧ w.cell? ⟨ob, 1, none⟩ = some (.map (some mb)) ∧ w.cell? ⟨ob, 2, none⟩ = some ev ∧ ErrCell f ev ∧ RSet w mb ls

def NewSaid (w : World) (p : Option Addr) (n c : Nat) (ls : List ByteArray) (f : Bool) (e : Ending) (w' : World) : Prop :=
  ∃ ob, e = .returned (.pointer (some ⟨ob, 0, none⟩)) ∧ ObjAt w' ob p n c ls f ∧ Below w.heap.size w w'

theorem RSet.below {w w' : World} {B b : Nat} {xs : List ByteArray} (h : RSet w b xs) (hB : Below B w w') (hb : b < B) : RSet w' b xs := by
  obtain ⟨es, clock, h1, h2⟩ := h
  exact ⟨es, clock, (hB.block b hb).trans h1, h2⟩

set_option maxHeartbeats 1000000 in
set_option maxRecDepth 20000 in
theorem newObject (p : Option Addr) (n c : Nat) (ls : List ByteArray) (pl : Option Addr) (cl : Nat) (f : Bool) (w : World) (hll : ls.length ≤ 1048576) (hL : Strs pl ls w) (hls : ∀ s ∈ ls, s.size ≤ 9223372036854775807) :
    Calls Tryf.prog 18 #[.slice p n c, .slice pl ls.length cl, .bool f] w (NewSaid w p n c ls f) := by
  have Hls := Lib.hid hls
  clear hls
  have hmm := make75
  go_enter Tryf.func18, Tryf.ntmps18
  go_wp2
  go_loopg [16] ls.length (fun gk kv wr => ∃ k : Nat, gk + k = ls.length ∧ kv = .int .i64 (k : Int) ∧ RSet wr w.heap.size (ls.take k) ∧ Below w.heap.size w wr)
  case atStart => exact ⟨0, by omega, rfl, World.ownsMap_made _ _ _ _, (Below.refl _ _).alloc (Nat.le_refl _) _⟩
  case round =>
    clear hmm
    obtain ⟨k, hk, rfl, hown, hB⟩ := hrel
    have Hk := Lib.hid hk
    clear hk
    by_cases hlt : k < ls.length
    · have hqk : ls[k]? = some ls[k] := List.getElem?_eq_getElem hlt
      generalize ls[k] = q at hqk
      have hlti : (k : Int) < (ls.length : Int) := by omega
      have hk0 : (0 : Int) ≤ (k : Int) := by omega
      have hs1 := Hls.out q (List.mem_of_getElem? hqk)
      have HB := Lib.hid hB
      have HO := Lib.hid hown
      rcases hL.below hB with he | ⟨qb, qo, rfl, hqb, hc⟩
      · rw [he] at hqk; simp at hqk
      have a0 := hc k _ hqk
      have HQ := Lib.hid hqk
      clear hc hqk hB hown
      have hcv := Lib.run_convert_bytes_const wr 77 5 #[.int .u8 110, .int .u8 117, .int .u8 108, .int .u8 108] 4 4 Tryf.underlying77 Tryf.underlying5
      go_wp2_with (at_mapUpdate; refine wpList_put75 _ rfl _ _ _ rfl w.heap.size (ls.take k) rfl (World.ownsMap.alloc (Hid.out HO) _) (by rw [List.length_take]; omega) q rfl hs1 ?_; intro w1 hown1 hgrow1; refine Hid.out ?_)
      refine Lib.hid ?_
      have HO1 := Lib.hid hown1
      have HB1 := Lib.hid (((Hid.out HB).alloc (Hid.out HB).size _).grown hgrow1 (by have := (Hid.out HB).size; simp; omega) (fun j hj => by cases hj; exact Nat.le_refl _))
      clear hown1 hgrow1 a0
      go_wp2
      go_roundg (gk - 1)
      case measure => have := Hk.out; omega
      case rel => exact ⟨k + 1, by have := Hk.out; omega, by go_num, by rw [take_snoc _ _ _ (Hid.out HQ)]; exact Hid.out HO1, Hid.out HB1⟩
    · have hleq : (ls.length : Int) ≤ (k : Int) := by have := Hk.out; omega
      rw [List.take_of_length_le (by omega)] at hown
      have HB := Lib.hid hB
      have HO := Lib.hid hown
      have hsz := World.ownsMap.lt hown
      clear hB hown hL
      cases f with
      | false =>
        go_wp2
        go_ret
        refine ⟨wr.heap.size, rfl, ⟨w.heap.size, .nilIface, by go_simp, by go_simp, by go_simp, rfl, World.ownsMap.alloc (Hid.out HO) _⟩, (Hid.out HB).alloc (Hid.out HB).size _⟩
      | true =>
        have h30 := errorsNew ⟨#[122, 122, 58, 32, 97, 32, 107, 101, 121, 32, 119, 97, 115, 32, 109, 105, 115, 115, 105, 110, 103, 32, 111, 114, 32, 119, 114, 111, 110, 103]⟩ (wr.alloc (.cells #[.slice p n c, .map (some w.heap.size), .nilIface] 79))
        go_wp2_with (go_at_call 30; refine h30.mono ?_; rintro e w1 ⟨t, v, rfl, hB1⟩; refine Hid.out ?_)
        refine Lib.hid ?_
        clear h30
        have hsl : wr.heap.size < (wr.alloc (.cells #[.slice p n c, .map (some w.heap.size), .nilIface] 79)).heap.size := by simp
        have c0 : w1.cell? ⟨wr.heap.size, 0, none⟩ = some (.slice p n c) := by rw [hB1.cell hsl]; go_simp
        have c1 : w1.cell? ⟨wr.heap.size, 1, none⟩ = some (.map (some w.heap.size)) := by rw [hB1.cell hsl]; go_simp
        have c2 : w1.cell? ⟨wr.heap.size, 2, none⟩ = some .nilIface := by rw [hB1.cell hsl]; go_simp
        have f2 : w1.frozen? ⟨wr.heap.size, 2, none⟩ = false := by rw [hB1.frozen hsl]; go_simp
        have hA : Below w.heap.size w w1 := ((Hid.out HB).alloc (Hid.out HB).size _).trans (hB1.mono (by have := (Hid.out HB).size; simp; omega))
        have hR : RSet w1 w.heap.size ls := RSet.below (World.ownsMap.alloc (Hid.out HO) _) hB1 (by simp; omega)
        have HA := Lib.hid hA
        have HR := Lib.hid hR
        have hne : ¬ w.heap.size = wr.heap.size := by omega
        clear hA hR hB1
        go_wp2
        go_ret
        refine ⟨wr.heap.size, rfl, ⟨w.heap.size, .iface t v, by go_simp, by go_simp, by go_simp, ⟨t, v, rfl⟩, World.ownsMap.setCell (Hid.out HR) hne _⟩, (Hid.out HA).setCell (by show w.heap.size ≤ wr.heap.size; omega) _⟩
end Go.Proofs.Qxb6614591aFmt
