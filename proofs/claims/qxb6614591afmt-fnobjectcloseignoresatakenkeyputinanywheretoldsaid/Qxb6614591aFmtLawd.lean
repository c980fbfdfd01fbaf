import Derived.Test.Qxb6614591aFmtLawc
import Derived.Test.Qxb6614591aFmtZc
import Derived.BigQuiet
import Derived.Deep.QuietTactic
namespace Go.Proofs.Qxb6614591aFmt
open Go.RowKit Go.Extern.Stop Go.Stop Go.Extern

theorem below_drewN {B : Nat} {w w' : World} (h : Below B w w') (n : Nat) : Below B w (w'.drewN n) := ⟨h.os, h.tape, h.output, h.size, h.block⟩

set_option maxHeartbeats 4000000 in
set_option maxRecDepth 20000 in
theorem law6 (F : Interp) (ks ls : List ByteArray) (pk pl : Option Addr) (ck cl : Nat) (a : Int) (x : ByteArray) (f : Bool) (w : World) (hF : F.answers w.tape) (hx : x.size ≤ 9223372036854775807)
    (hkl : ks.length ≤ 9223372036854775807) (hll : ls.length ≤ 9223372036854775807) (hK : Strs pk ks w) (hL : Strs pl ls w)
    (hks : ∀ s ∈ ks, s.size ≤ 9223372036854775807) (hls : ∀ s ∈ ls, s.size ≤ 9223372036854775807) :
    Calls Tryf.prog 6 #[.slice pk ks.length ck, .int .i64 a, .string x, .slice pl ls.length cl, .bool f] w (Held w) := by
  have h19 := zzBytes19 ks ls pk pl ck cl a x hx f w hkl hll hK hL hks hls
  have HF := Lib.hid hF
  have HK := Lib.hid hK
  have HL := Lib.hid hL
  have Hks := Lib.hid hks
  have Hls := Lib.hid hls
  clear hF hK hL hks hls
  go_enter Tryf.func6, Tryf.ntmps6
  go_wp2_with (go_at_call 19; refine h19.mono ?_; rintro e w1 ⟨b, rfl, hw1, hb⟩; refine Hid.out ?_)
  refine Lib.hid ?_
  clear h19
  subst hw1
  cases b with
  | false =>
    clear hb
    go_wp2_with fail
    go_ret
    exact ⟨rfl, Below.refl _ _⟩
  | true =>
  obtain ⟨hk1, hl1⟩ := hb rfl
  clear hb hkl hll
  by_cases hxs : x.size ≤ 1048560
  case neg =>
    have hxi : ¬ (x.size : Int) ≤ 1048560 := by omega
    go_wp2_with fail
    go_ret
    exact ⟨rfl, Below.refl _ _⟩
  have hxi : (x.size : Int) ≤ 1048560 := by omega
  have h13 := zzAddBytes (x.size + 16) ks pk ck w1 (by omega) hk1 (Hid.out HK) (Hid.out Hks)
  rw [show ((x.size + 16 : Nat) : Int) = (x.size : Int) + 16 by omega] at h13
  go_wp2_with (go_at_call 13; refine h13.mono ?_; rintro e w2 ⟨r1, rfl, hr1, hw2⟩; refine Hid.out ?_)
  refine Lib.hid ?_
  clear h13
  subst hw2
  by_cases hq1 : r1 ≤ 1048576
  case neg =>
    have hq1i : ¬ (r1 : Int) ≤ 1048576 := by omega
    go_wp2_with fail
    go_ret
    exact ⟨rfl, Below.refl _ _⟩
  have hq1i : (r1 : Int) ≤ 1048576 := by omega
  have h13 := zzAddBytes r1 ls pl cl w2 hq1 hl1 (Hid.out HL) (Hid.out Hls)
  clear hr1
  go_wp2_with (go_at_call 13; refine h13.mono ?_; rintro e w3 ⟨r2, rfl, hr2, hw3⟩; refine Hid.out ?_)
  refine Lib.hid ?_
  clear h13 hq1 hq1i
  subst hw3
  by_cases hq2 : r2 ≤ 1048576
  case neg =>
    have hq2i : ¬ (r2 : Int) ≤ 1048576 := by omega
    go_wp2_with fail
    go_ret
    exact ⟨rfl, Below.refl _ _⟩
  have hq2i : (r2 : Int) ≤ 1048576 := by omega
  clear hr2
  by_cases hj1 : a < 0
  case pos =>
    have hj1d : decide (a < 0) = true := by simpa using hj1
    go_wp2_with fail
    go_ret
    exact ⟨rfl, Below.refl _ _⟩
  have hj1d : decide (a < 0) = false := by simpa using hj1
  by_cases hj2 : (ks.length : Int) < a
  case pos =>
    have hj2d : decide ((ks.length : Int) < a) = true := by simpa using hj2
    go_wp2_with fail
    go_ret
    exact ⟨rfl, Below.refl _ _⟩
  have hj2d : decide ((ks.length : Int) < a) = false := by simpa using hj2
  obtain ⟨an, rfl⟩ : ∃ an : Nat, a = (an : Int) := ⟨a.toNat, by omega⟩
  have han : an ≤ ks.length := by omega
  have h14 := zzAllIn ls ks pl pk cl ck w3 hl1 hk1 (Hid.out HL) (Hid.out HK) (Hid.out Hls) (Hid.out Hks)
  go_wp2_with (go_at_call 14; refine h14.mono ?_; rintro e w4 ⟨b, rfl, hb, hB4⟩; refine Hid.out ?_)
  refine Lib.hid ?_
  clear h14 hq2 hq2i
  cases b with
  | false =>
    clear hb
    have G := Lib.hid hB4
    clear hB4
    go_wp2_with fail
    go_ret
    exact ⟨rfl, Hid.out G⟩
  | true =>
  have HSub := Lib.hid (hb rfl)
  clear hb
  have HK4 := Lib.hid ((Hid.out HK).below hB4)
  have HL4 := Lib.hid ((Hid.out HL).below hB4)
  have hF4 : F.answers w4.tape := by rw [hB4.tape]; exact Hid.out HF
  have HF4 := Lib.hid hF4
  have G4 := Lib.hid hB4
  clear HK HL HF hF4 hB4
  have h20 := zzContains ks pk ck x w4 hk1 (Hid.out HK4)
  go_wp2_with (go_at_call 20; refine h20.mono ?_; rintro e w40 ⟨b, rfl, hw40, hb⟩; refine Hid.out ?_)
  refine Lib.hid ?_
  clear h20
  subst hw40
  cases b with
  | true =>
    clear hb
    go_wp2_with fail
    go_ret
    exact ⟨rfl, Hid.out G4⟩
  | false =>
  have HNot := Lib.hid (hb rfl)
  clear hb hj1 hj1d hj2 hj2d
  have h15 := zzClone ks pk ck w40 hk1 (Hid.out HK4)
  go_wp2_with (go_at_call 15; refine h15.mono ?_; rintro e w5 ⟨p1, c1, rfl, hS1, hB5⟩; refine Hid.out ?_)
  refine Lib.hid ?_
  clear h15
  have h15 := zzClone ls pl cl w5 hl1 ((Hid.out HL4).below hB5)
  have G5 := Lib.hid (Below.thenB (Hid.out G4) hB5)
  have T5 : w5.tape = w40.tape := hB5.tape
  have HT5 := Lib.hid T5
  have HS1 := Lib.hid hS1
  clear hS1 hB5 HK4 HL4 G4 T5
  go_wp2_with (go_at_call 15; refine h15.mono ?_; rintro e w6 ⟨p2, c2, rfl, hS2, hB6⟩; refine Hid.out ?_)
  refine Lib.hid ?_
  clear h15
  have HK6 := Lib.hid ((Hid.out HS1).below hB6)
  have HL6 := Lib.hid hS2
  have HF6 : Hid (F.answers w6.tape) := by show F.answers w6.tape; rw [hB6.tape, Hid.out HT5]; exact Hid.out HF4
  have G6 := Lib.hid (Below.thenB (Hid.out G5) hB6)
  clear hS2 hB6 HS1 G5 HT5 HF4
  have h21 := zzInsert ks p1 c1 an x w6 hk1 han (Hid.out HK6)
  go_wp2_with (go_at_call 21; refine h21.mono ?_; rintro e wz ⟨p3, c3, rfl, hS3, hBz⟩; refine Hid.out ?_)
  refine Lib.hid ?_
  clear h21
  have HKz := Lib.hid ((Hid.out HK6).below hBz)
  have HLz := Lib.hid ((Hid.out HL6).below hBz)
  have HAz := Lib.hid hS3
  have HFz : Hid (F.answers wz.tape) := by show F.answers wz.tape; rw [hBz.tape]; exact Hid.out HF6
  have Gz := Lib.hid (Below.thenB (Hid.out G6) hBz)
  clear HK6 HL6 HF6 G6 hS3 hBz
  have HAl : Hid ((inserted ks an x).length ≤ 1048577) := by show (inserted ks an x).length ≤ 1048577; rw [inserted_len x han]; omega
  have HAs : Hid (∀ s ∈ inserted ks an x, s.size ≤ 9223372036854775807) := by
    show ∀ s ∈ inserted ks an x, s.size ≤ 9223372036854775807
    intro s hs
    rcases mem_inserted.1 hs with h | h
    · rw [h]; exact hx
    · exact Hid.out Hks s h
  have HSubA : Hid (∀ s ∈ ls, s ∈ inserted ks an x) := fun s hs => mem_inserted.2 (Or.inr (Hid.out HSub s hs))
  generalize inserted ks an x = A at *
  have h18 := newObject p1 ks.length c1 ls p2 c2 f wz hl1 (Hid.out HLz) (Hid.out Hls)
  go_wp2_with (go_at_call 18; refine h18.mono ?_; rintro e w7 ⟨ob1, rfl, hO1, hB7⟩; refine Hid.out ?_)
  refine Lib.hid ?_
  clear h18
  have hF7 : F.answers w7.tape := by rw [hB7.tape]; exact Hid.out HFz
  have HK7 := Lib.hid ((Hid.out HKz).below hB7)
  have HL7 := Lib.hid ((Hid.out HLz).below hB7)
  have HA7 := Lib.hid ((Hid.out HAz).below hB7)
  have G7 := Lib.hid (Below.thenB (Hid.out Gz) hB7)
  have h17 := closeObject F ob1 p1 c1 ks ls f w7 hF7 (by omega) (Hid.out HK7) hO1 (Hid.out Hks)
  have HF7 := Lib.hid hF7
  clear hF7 hO1 hB7 HKz HLz HAz HFz Gz
  go_wp2_with (go_at_call 17; refine h17.mono ?_; rintro e w8 ⟨b1, v1, rfl, he1, hb1, hB8⟩; refine Hid.out ?_)
  refine Lib.hid ?_
  clear h17
  have hF8 : F.answers w8.tape := by rw [hB8.tape]; exact Hid.out HF7
  have HA8 := Lib.hid ((Hid.out HA7).below hB8)
  have h18 := newObject p3 A.length c3 ls p2 c2 f w8 hl1 ((Hid.out HL7).below hB8) (Hid.out Hls)
  have G8 := Lib.hid (Below.thenB (Hid.out G7) hB8)
  have HF8 := Lib.hid hF8
  have E1 := Lib.hid (And.intro he1 (close_bit hb1 (Hid.out HSub)))
  clear hF8 hB8 HK7 HL7 HA7 HF7 G7 he1 hb1
  go_wp2_with (go_at_call 18; refine h18.mono ?_; rintro e w9 ⟨ob2, rfl, hO2, hB9⟩; refine Hid.out ?_)
  refine Lib.hid ?_
  clear h18
  have hF9 : F.answers w9.tape := by rw [hB9.tape]; exact Hid.out HF8
  have h17 := closeObject F ob2 p3 c3 A ls f w9 hF9 (Hid.out HAl) ((Hid.out HA8).below hB9) hO2 (Hid.out HAs)
  have G9 := Lib.hid (Below.thenB (Hid.out G8) hB9)
  clear hF9 hB9 HA8 HF8 G8 hO2
  go_wp2_with (go_at_call 17; refine h17.mono ?_; rintro e w10 ⟨b2, v2, rfl, he2, hb2, hB10⟩; refine Hid.out ?_)
  refine Lib.hid ?_
  clear h17
  have G10 := Lib.hid (Below.thenB (Hid.out G9) hB10)
  have E2 := Lib.hid (And.intro he2 (close_bit hb2 (Hid.out HSubA)))
  clear G9 hB10 he2 hb2
  obtain ⟨he1, rfl⟩ := Hid.out E1
  obtain ⟨he2, rfl⟩ := Hid.out E2
  clear E1 E2 HSub HSubA HNot HAl HAs
  cases f with
  | true =>
    obtain ⟨t1, x1, rfl⟩ := ErrCell.yes he1
    obtain ⟨t2, x2, rfl⟩ := ErrCell.yes he2
    go_wp2_with fail
    go_quiet (fail)
    go_wp2_with fail
    go_ret
    exact ⟨rfl, below_drewN (Hid.out G10) _⟩
  | false =>
    by_cases hemp : ls = []
    · subst hemp
      have e1 := ErrCell.no he1
      have e2 := ErrCell.no he2
      subst e1 e2
      go_wp2_with fail
      go_quiet (fail)
      go_wp2_with fail
      go_ret
      exact ⟨rfl, below_drewN (Hid.out G10) _⟩
    · have hne : ls.isEmpty = false := by simpa using hemp
      rw [hne] at he1 he2
      obtain ⟨t1, x1, rfl⟩ := ErrCell.yes he1
      obtain ⟨t2, x2, rfl⟩ := ErrCell.yes he2
      have hpos : 0 < ls.length := List.length_pos_iff.2 hemp
      have hposi : (0 : Int) < (ls.length : Int) := by omega
      have hposd : decide ((0 : Int) < (ls.length : Int)) = true := by simpa using hposi
      go_wp2_with fail
      go_quiet (fail)
      go_wp2_with fail
      go_ret
      exact ⟨rfl, below_drewN (Hid.out G10) _⟩
end Go.Proofs.Qxb6614591aFmt
