import Derived.Test.Qxb6614591aFmtLawb
namespace Go.Proofs.Qxb6614591aFmt
open Go.RowKit Go.Extern.Stop Go.Stop Go.Extern

set_option maxHeartbeats 400000 in
set_option maxRecDepth 20000 in
theorem law4out (c f s : Int) (w : World) (h : ¬ ((-2305843009213693952 ≤ f ∧ f ≤ 2305843009213693952) ∧ (-2305843009213693952 ≤ s ∧ s ≤ 2305843009213693952))) :
    Calls Tryf.prog 4 #[.int .i64 c, .int .i64 f, .int .i64 s] w fun e w' => e = .returned (.bool true) ∧ Below w.heap.size w w' := by
  by_cases h1 : f < -2305843009213693952
  · have a1 : decide (f < -2305843009213693952) = true := by simpa using h1
    go_enter Tryf.func4, Tryf.ntmps4
    go_wp2_with fail
    go_ret
    exact ⟨rfl, Below.refl _ _⟩
  have a1 : decide (f < -2305843009213693952) = false := by simpa using h1
  by_cases h2 : 2305843009213693952 < f
  · have a2 : decide (2305843009213693952 < f) = true := by simpa using h2
    go_enter Tryf.func4, Tryf.ntmps4
    go_wp2_with fail
    go_ret
    exact ⟨rfl, Below.refl _ _⟩
  have a2 : decide (2305843009213693952 < f) = false := by simpa using h2
  by_cases h3 : s < -2305843009213693952
  · have a3 : decide (s < -2305843009213693952) = true := by simpa using h3
    go_enter Tryf.func4, Tryf.ntmps4
    go_wp2_with fail
    go_ret
    exact ⟨rfl, Below.refl _ _⟩
  have a3 : decide (s < -2305843009213693952) = false := by simpa using h3
  have h4 : 2305843009213693952 < s := by omega
  have a4 : decide (2305843009213693952 < s) = true := by simpa using h4
  go_enter Tryf.func4, Tryf.ntmps4
  go_wp2_with fail
  go_ret
  exact ⟨rfl, Below.refl _ _⟩

theorem law4all (F : Interp) (c f s : Int) (w : World) (hF : F.answers w.tape) (hAB : (sprA F).size + (sprB F).size ≤ 9223372036854775807)
    (hc : -9223372036854775808 ≤ c ∧ c ≤ 9223372036854775807) :
    Calls Tryf.prog 4 #[.int .i64 c, .int .i64 f, .int .i64 s] w fun e w' => e = .returned (.bool true) ∧ Below w.heap.size w w' := by
  by_cases h : (-2305843009213693952 ≤ f ∧ f ≤ 2305843009213693952) ∧ (-2305843009213693952 ≤ s ∧ s ≤ 2305843009213693952)
  · exact law4 F c f s w hF hAB hc h.1 h.2
  · exact law4out c f s w h
end Go.Proofs.Qxb6614591aFmt
