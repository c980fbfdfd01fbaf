import Derived.Test.Qxb6614591aFmtClo
import Derived.Test.Qxb6614591aFmtIs
import Derived.Test.Qxb6614591aFmtZb
import Derived.Test.Qxb6614591aFmtAb
namespace Go.Proofs.Qxb6614591aFmt
open Go.RowKit Go.Extern.Stop Go.Stop Go.Extern

/-- The call says true; of old memory nothing has turned. -/
def Held (w : World) (e : Ending) (w' : World) : Prop := e = .returned (.bool true) ∧ Below w.heap.size w w'

theorem close_bit {b f : Bool} {ks ls : List ByteArray} (h : b = true ↔ (f = true ∨ ∃ k ∈ ks, k ∈ ls)) (hsub : ∀ s ∈ ls, s ∈ ks) : b = (f || !ls.isEmpty) := by
  rw [Bool.eq_iff_iff, h]
  cases ls with
  | nil => simp
  | cons x r =>
    simp only [List.isEmpty_cons, Bool.not_false, Bool.or_true, iff_true]
    exact Or.inr ⟨x, hsub x (by simp), by simp⟩

theorem ErrCell.yes {v : Value} (h : ErrCell true v) : ∃ t x, v = .iface t x := h
theorem ErrCell.no {v : Value} (h : ErrCell false v) : v = .nilIface := h

set_option maxHeartbeats 4000000 in
set_option maxRecDepth 20000 in
theorem law5 (F : Interp) (ks ls : List ByteArray) (pk pl : Option Addr) (ck cl : Nat) (j : Int) (f : Bool) (w : World) (hF : F.answers w.tape)
    (hkl : ks.length ≤ 9223372036854775807) (hll : ls.length ≤ 9223372036854775807) (hK : Strs pk ks w) (hL : Strs pl ls w)
    (hks : ∀ s ∈ ks, s.size ≤ 9223372036854775807) (hls : ∀ s ∈ ls, s.size ≤ 9223372036854775807) :
    Calls Tryf.prog 5 #[.slice pk ks.length ck, .slice pl ls.length cl, .int .i64 j, .bool f] w (Held w) := by
  have h12 := zzBytes12 ks ls pk pl ck cl j f w hkl hll hK hL hks hls
  have HF := Lib.hid hF
  have HK := Lib.hid hK
  have HL := Lib.hid hL
  have Hks := Lib.hid hks
  have Hls := Lib.hid hls
  clear hF hK hL hks hls
  go_enter Tryf.func5, Tryf.ntmps5
  go_wp2_with (go_at_call 12; refine h12.mono ?_; rintro e w1 ⟨b, rfl, hw1, hb⟩; refine Hid.out ?_)
  refine Lib.hid ?_
  clear h12
  subst hw1
  cases b with
  | false =>
    clear hb
    go_wp2_with fail
    go_ret
    exact ⟨rfl, Below.refl _ _⟩
  | true =>
  obtain ⟨hk1, hl1⟩ := hb rfl
  clear hb hkl hll
  have h13 := zzAddBytes 0 ks pk ck w1 (by omega) hk1 (Hid.out HK) (Hid.out Hks)
  go_wp2_with (go_at_call 13; refine h13.mono ?_; rintro e w2 ⟨r1, rfl, hr1, hw2⟩; refine Hid.out ?_)
  refine Lib.hid ?_
  clear h13
  subst hw2
  by_cases hq1 : r1 ≤ 1048576
  case neg =>
    have hq1i : ¬ (r1 : Int) ≤ 1048576 := by omega
    go_wp2_with fail
    go_ret
    exact ⟨rfl, Below.refl _ _⟩
  have hq1i : (r1 : Int) ≤ 1048576 := by omega
  have h13 := zzAddBytes r1 ls pl cl w2 hq1 hl1 (Hid.out HL) (Hid.out Hls)
  clear hr1
  go_wp2_with (go_at_call 13; refine h13.mono ?_; rintro e w3 ⟨r2, rfl, hr2, hw3⟩; refine Hid.out ?_)
  refine Lib.hid ?_
  clear h13 hq1 hq1i
  subst hw3
  by_cases hq2 : r2 ≤ 1048576
  case neg =>
    have hq2i : ¬ (r2 : Int) ≤ 1048576 := by omega
    go_wp2_with fail
    go_ret
    exact ⟨rfl, Below.refl _ _⟩
  have hq2i : (r2 : Int) ≤ 1048576 := by omega
  have h14 := zzAllIn ls ks pl pk cl ck w3 hl1 hk1 (Hid.out HL) (Hid.out HK) (Hid.out Hls) (Hid.out Hks)
  clear hr2
  go_wp2_with (go_at_call 14; refine h14.mono ?_; rintro e w4 ⟨b, rfl, hb, hB4⟩; refine Hid.out ?_)
  refine Lib.hid ?_
  clear h14 hq2 hq2i
  cases b with
  | false =>
    clear hb
    have G := Lib.hid hB4
    clear hB4
    go_wp2_with fail
    go_ret
    exact ⟨rfl, Hid.out G⟩
  | true =>
  have HSub := Lib.hid (hb rfl)
  clear hb
  have HK4 := Lib.hid ((Hid.out HK).below hB4)
  have HL4 := Lib.hid ((Hid.out HL).below hB4)
  have hF4 : F.answers w4.tape := by rw [hB4.tape]; exact Hid.out HF
  have HF4 := Lib.hid hF4
  have G4 := Lib.hid hB4
  clear HK HL HF hF4 hB4
  by_cases hemp : ls = []
  case pos =>
    subst hemp
    have h15 := zzClone ks pk ck w4 hk1 (Hid.out HK4)
    go_wp2_with (go_at_call 15; refine h15.mono ?_; rintro e w5 ⟨p1, c1, rfl, hS1, hB5⟩; refine Hid.out ?_)
    refine Lib.hid ?_
    clear h15
    have h15 := zzClone [] pl cl w5 (by simp) ((Hid.out HL4).below hB5)
    have G5 := Lib.hid (Below.thenB (Hid.out G4) hB5)
    have T5 : w5.tape = w4.tape := hB5.tape
    have HT5 := Lib.hid T5
    have HS1 := Lib.hid hS1
    clear hS1 hB5 HK4 HL4 G4 T5
    go_wp2_with (go_at_call 15; refine h15.mono ?_; rintro e w6 ⟨p2, c2, rfl, hS2, hB6⟩; refine Hid.out ?_)
    refine Lib.hid ?_
    clear h15
    have HK6 := Lib.hid ((Hid.out HS1).below hB6)
    have HL6 := Lib.hid hS2
    have HF6 : Hid (F.answers w6.tape) := by show F.answers w6.tape; rw [hB6.tape, Hid.out HT5]; exact Hid.out HF4
    have G6 := Lib.hid (Below.thenB (Hid.out G5) hB6)
    clear hS2 hB6 HS1 G5 HT5 HF4
    have HKz := HK6
    have HLz := HL6
    have HAz := HL6
    have HFz := HF6
    have Gz := G6
    clear HK6 HL6 HF6 G6
    obtain ⟨wz, hwz⟩ : ∃ wz, wz = w6 := ⟨_, rfl⟩
    subst hwz
    have h18 := newObject p1 ks.length c1 [] p2 c2 f wz (by simp) (Hid.out HLz) (by simp)
    go_wp2_with (go_at_call 18; refine h18.mono ?_; rintro e w7 ⟨ob1, rfl, hO1, hB7⟩; refine Hid.out ?_)
    refine Lib.hid ?_
    clear h18
    have hF7 : F.answers w7.tape := by rw [hB7.tape]; exact Hid.out HFz
    have HK7 := Lib.hid ((Hid.out HKz).below hB7)
    have HA7 := Lib.hid ((Hid.out HAz).below hB7)
    have G7 := Lib.hid (Below.thenB (Hid.out Gz) hB7)
    have h17 := closeObject F ob1 p1 c1 ks [] f w7 hF7 (by omega) (Hid.out HK7) hO1 (Hid.out Hks)
    have HF7 := Lib.hid hF7
    clear hF7 hO1 hB7 HKz HLz HAz HFz Gz
    go_wp2_with (go_at_call 17; refine h17.mono ?_; rintro e w8 ⟨b1, v1, rfl, he1, hb1, hB8⟩; refine Hid.out ?_)
    refine Lib.hid ?_
    clear h17
    have hF8 : F.answers w8.tape := by rw [hB8.tape]; exact Hid.out HF7
    have HK8 := Lib.hid ((Hid.out HK7).below hB8)
    have h18 := newObject p1 ks.length c1 [] p2 c2 f w8 (by simp) ((Hid.out HA7).below hB8) (by simp)
    have G8 := Lib.hid (Below.thenB (Hid.out G7) hB8)
    have HF8 := Lib.hid hF8
    have E1 := Lib.hid (And.intro he1 (close_bit hb1 (by simp)))
    clear hF8 hB8 HK7 HA7 HF7 G7 he1 hb1
    go_wp2_with (go_at_call 18; refine h18.mono ?_; rintro e w9 ⟨ob2, rfl, hO2, hB9⟩; refine Hid.out ?_)
    refine Lib.hid ?_
    clear h18
    have hF9 : F.answers w9.tape := by rw [hB9.tape]; exact Hid.out HF8
    have h17 := closeObject F ob2 p1 c1 ks [] f w9 hF9 (by omega) ((Hid.out HK8).below hB9) hO2 (Hid.out Hks)
    have G9 := Lib.hid (Below.thenB (Hid.out G8) hB9)
    clear hF9 hB9 HK8 HF8 G8 hO2
    go_wp2_with (go_at_call 17; refine h17.mono ?_; rintro e w10 ⟨b2, v2, rfl, he2, hb2, hB10⟩; refine Hid.out ?_)
    refine Lib.hid ?_
    clear h17
    have G10 := Lib.hid (Below.thenB (Hid.out G9) hB10)
    have E2 := Lib.hid (And.intro he2 (close_bit hb2 (by simp)))
    clear G9 hB10 he2 hb2
    obtain ⟨he1, rfl⟩ := Hid.out E1
    obtain ⟨he2, rfl⟩ := Hid.out E2
    clear E1 E2
    cases f with
    | true =>
      obtain ⟨t1, x1, rfl⟩ := ErrCell.yes he1
      obtain ⟨t2, x2, rfl⟩ := ErrCell.yes he2
      go_wp2_with fail
      go_ret
      exact ⟨rfl, Hid.out G10⟩
    | false =>
      have e1 := ErrCell.no he1
      have e2 := ErrCell.no he2
      subst e1 e2
      go_wp2_with fail
      go_ret
      exact ⟨rfl, Hid.out G10⟩

  have hpos : 0 < ls.length := List.length_pos_iff.2 hemp
  have hposi : (0 : Int) < (ls.length : Int) := by omega
  have hposd : decide ((0 : Int) < (ls.length : Int)) = true := by simpa using hposi
  by_cases hj1 : j < 0
  case pos =>
    have hj1d : decide (j < 0) = true := by simpa using hj1
    go_wp2_with fail
    go_ret
    exact ⟨rfl, Hid.out G4⟩
  have hj1d : decide (j < 0) = false := by simpa using hj1
  by_cases hj2 : (ls.length : Int) ≤ j
  case pos =>
    have hj2d : decide ((ls.length : Int) ≤ j) = true := by simpa using hj2
    go_wp2_with fail
    go_ret
    exact ⟨rfl, Hid.out G4⟩
  have hj2d : decide ((ls.length : Int) ≤ j) = false := by simpa using hj2
  obtain ⟨jn, rfl⟩ : ∃ jn : Nat, j = (jn : Int) := ⟨j.toNat, by omega⟩
  have hjl : jn < ls.length := by omega
  have hji : (jn : Int) < (ls.length : Int) := by omega
  have hj0 : (0 : Int) ≤ (jn : Int) := by omega
  have hqj : ls[jn]? = some ls[jn] := List.getElem?_eq_getElem hjl
  generalize ls[jn] = q at hqj
  have HQ := Lib.hid hqj
  clear hqj
  have h15 := zzClone ks pk ck w4 hk1 (Hid.out HK4)
  go_wp2_with (go_at_call 15; refine h15.mono ?_; rintro e w5 ⟨p1, c1, rfl, hS1, hB5⟩; refine Hid.out ?_)
  refine Lib.hid ?_
  clear h15
  have h15 := zzClone ls pl cl w5 hl1 ((Hid.out HL4).below hB5)
  have G5 := Lib.hid (Below.thenB (Hid.out G4) hB5)
  have T5 : w5.tape = w4.tape := hB5.tape
  have HT5 := Lib.hid T5
  have HS1 := Lib.hid hS1
  clear hS1 hB5 HK4 HL4 G4 T5
  go_wp2_with (go_at_call 15; refine h15.mono ?_; rintro e w6 ⟨p2, c2, rfl, hS2, hB6⟩; refine Hid.out ?_)
  refine Lib.hid ?_
  clear h15
  have HK6 := Lib.hid ((Hid.out HS1).below hB6)
  have HL6 := Lib.hid hS2
  have HF6 : Hid (F.answers w6.tape) := by show F.answers w6.tape; rw [hB6.tape, Hid.out HT5]; exact Hid.out HF4
  have G6 := Lib.hid (Below.thenB (Hid.out G5) hB6)
  clear hS2 hB6 HS1 G5 HT5 HF4
  have h16 := zzWithout ls p2 c2 q w6 hl1 (Hid.out HL6)
  have a0 : ∃ qb qo, p2 = some ⟨qb, qo, none⟩ ∧ w6.cell? ⟨qb, qo + jn, none⟩ = some (.string q) := by
    rcases Hid.out HL6 with he | ⟨qb, qo, he, -, hc⟩
    · exact absurd he hemp
    · exact ⟨qb, qo, he, hc jn _ (Hid.out HQ)⟩
  obtain ⟨qb, qo, rfl, a1⟩ := a0
  go_wp2_with (go_at_call 16; refine h16.mono ?_; rintro e wz ⟨p3, c3, rfl, hS3, hBz⟩; refine Hid.out ?_)
  refine Lib.hid ?_
  clear h16 a1 hj1 hj1d hj2 hj2d hjl hji hj0
  have HKz := Lib.hid ((Hid.out HK6).below hBz)
  have HLz := Lib.hid ((Hid.out HL6).below hBz)
  have HAz := Lib.hid hS3
  have HFz : Hid (F.answers wz.tape) := by show F.answers wz.tape; rw [hBz.tape]; exact Hid.out HF6
  have Gz := Lib.hid (Below.thenB (Hid.out G6) hBz)
  clear HK6 HL6 HF6 G6 hS3 hBz
  have hAl : (without ls q).length ≤ 1048576 := Nat.le_trans (without_len ls q) hl1
  have h18 := newObject p1 ks.length c1 ls (some ⟨qb, qo, none⟩) c2 f wz hl1 (Hid.out HLz) (Hid.out Hls)
  go_wp2_with (go_at_call 18; refine h18.mono ?_; rintro e w7 ⟨ob1, rfl, hO1, hB7⟩; refine Hid.out ?_)
  refine Lib.hid ?_
  clear h18
  have hF7 : F.answers w7.tape := by rw [hB7.tape]; exact Hid.out HFz
  have HK7 := Lib.hid ((Hid.out HKz).below hB7)
  have HA7 := Lib.hid ((Hid.out HAz).below hB7)
  have G7 := Lib.hid (Below.thenB (Hid.out Gz) hB7)
  have h17 := closeObject F ob1 p1 c1 ks ls f w7 hF7 (by omega) (Hid.out HK7) hO1 (Hid.out Hks)
  have HF7 := Lib.hid hF7
  clear hF7 hO1 hB7 HKz HLz HAz HFz Gz
  go_wp2_with (go_at_call 17; refine h17.mono ?_; rintro e w8 ⟨b1, v1, rfl, he1, hb1, hB8⟩; refine Hid.out ?_)
  refine Lib.hid ?_
  clear h17
  have hF8 : F.answers w8.tape := by rw [hB8.tape]; exact Hid.out HF7
  have HK8 := Lib.hid ((Hid.out HK7).below hB8)
  have h18 := newObject p1 ks.length c1 (without ls q) p3 c3 f w8 hAl ((Hid.out HA7).below hB8) (fun s hs => Hid.out Hls s (without_sub hs))
  have G8 := Lib.hid (Below.thenB (Hid.out G7) hB8)
  have HF8 := Lib.hid hF8
  have E1 := Lib.hid (And.intro he1 (close_bit hb1 (Hid.out HSub)))
  clear hF8 hB8 HK7 HA7 HF7 G7 he1 hb1
  go_wp2_with (go_at_call 18; refine h18.mono ?_; rintro e w9 ⟨ob2, rfl, hO2, hB9⟩; refine Hid.out ?_)
  refine Lib.hid ?_
  clear h18
  have hF9 : F.answers w9.tape := by rw [hB9.tape]; exact Hid.out HF8
  have h17 := closeObject F ob2 p1 c1 ks (without ls q) f w9 hF9 (by omega) ((Hid.out HK8).below hB9) hO2 (Hid.out Hks)
  have G9 := Lib.hid (Below.thenB (Hid.out G8) hB9)
  clear hF9 hB9 HK8 HF8 G8 hO2
  go_wp2_with (go_at_call 17; refine h17.mono ?_; rintro e w10 ⟨b2, v2, rfl, he2, hb2, hB10⟩; refine Hid.out ?_)
  refine Lib.hid ?_
  clear h17
  have G10 := Lib.hid (Below.thenB (Hid.out G9) hB10)
  have E2 := Lib.hid (And.intro he2 (close_bit hb2 (fun s hs => Hid.out HSub s (without_sub hs))))
  clear G9 hB10 he2 hb2
  obtain ⟨he1, rfl⟩ := Hid.out E1
  obtain ⟨he2, rfl⟩ := Hid.out E2
  clear E1 E2
  have hne : ls.isEmpty = false := by simpa using hemp
  rw [hne] at he1
  clear HSub HQ
  generalize without ls q = A at *
  cases f with
  | true =>
    obtain ⟨t1, x1, rfl⟩ := ErrCell.yes he1
    obtain ⟨t2, x2, rfl⟩ := ErrCell.yes he2
    go_wp2_with fail
    go_ret
    exact ⟨rfl, Hid.out G10⟩
  | false =>
    obtain ⟨t1, x1, rfl⟩ := ErrCell.yes he1
    cases A with
    | nil =>
      have e2 := ErrCell.no he2
      subst e2
      go_wp2_with fail
      go_ret
      exact ⟨rfl, Hid.out G10⟩
    | cons y r =>
      obtain ⟨t2, x2, rfl⟩ := ErrCell.yes he2
      have hA0d : decide ((0 : Int) < (r.length : Int) + 1) = true := by simp
      go_wp2_with fail
      go_ret
      exact ⟨rfl, Hid.out G10⟩

end Go.Proofs.Qxb6614591aFmt
