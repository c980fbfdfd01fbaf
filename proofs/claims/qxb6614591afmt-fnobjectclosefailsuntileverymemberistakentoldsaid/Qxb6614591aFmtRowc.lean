import Derived.Test.Qxb6614591aFmtBase
import Derived.Test.Qxb6614591aFmtLawc
import Derived.Test.Qxb6614591aFmtOpen
namespace Go.Proofs.Qxb6614591aFmt
open Go.ChangeShapes Go.WideShapes Go.ChangeAt Go.RowKit Go.Kit
open Go.Extern.Stop Go.Stop Go.Extern

set_option maxRecDepth 100000 in
theorem lifted5 (os : Os) (started : os.Started) (H : Type) (enc : TypeId × Value → H) :
    ReturnsInTold none {} Tryf.checked os 5 .any Input.okWide ((OpenSpec.ofChange Rows.fnObjectCloseFailsUntilEveryMemberIsTakenSpec).preRow enc Tryf.prog Tryf.f5 [] false []) (fun F => ((OpenSpec.ofChange Rows.fnObjectCloseFailsUntilEveryMemberIsTakenSpec).at F).post enc Tryf.prog Tryf.f5 false true false false) (aloneAtReturn Tryf.prog) nothingAlways := by
  refine returnsInTold_of_row (C := Tryf.checked) (s := OpenSpec.ofChange Rows.fnObjectCloseFailsUntilEveryMemberIsTakenSpec) (by kernel_rfl) Tryf.own started (by kernel_rfl) Tryf.func5
    (OpenSpec.witness_stopped (enc := enc) (C := Tryf.checked) false ⟨#[], #[.slice none 0 0, .slice none 0 0, .int .i64 0, .bool false], []⟩ 8 (by kernel_rfl) (by kernel_rfl) (by kernel_rfl) (by kernel_rfl)) ?_
  intro F W base args ds gs before _ hF hval0 hW _ _ _ _ _
  have hval : ∀ (j : Nat) t v, Tryf.f5.params[j]? = some t → args[j]? = some v → Value.okWide Tryf.prog W .any base t v := hval0
  have hW' := hW
  obtain ⟨p, q, hA0, hV, rfl, hfz, hnd⟩ := hW
  have hA : DataW.TrodAll enc Tryf.prog W 0 (fun _ => true) true Tryf.f5.params.toList args.toList ds p := hA0
  rw [Tryf.params5] at hA hval
  obtain ⟨v0, v1, v2, v3, d0, d1, d2, d3, p0, p1, p2, p3, rfl, rfl, rfl, h0, h1, h2, h3⟩ := trodAll_four hA
  obtain ⟨rfl, rfl⟩ := trodVars_none hV
  obtain ⟨j, rfl, rfl, rfl, wj⟩ := open_int Tryf.underlying3 (hval 2 3 v2 rfl rfl) h2
  obtain ⟨f, rfl, rfl, rfl⟩ := open_bool Tryf.underlying4 (hval 3 4 v3 rfl rfl) h3
  have h0k := h0
  have h1k := h1
  obtain ⟨a0, l0, k0, rfl⟩ := okWide_slice Tryf.underlying32 (hval 0 32 v0 rfl rfl)
  obtain ⟨a1, l1, k1, rfl⟩ := okWide_slice Tryf.underlying32 (hval 1 32 v1 rfl rfl)
  obtain ⟨fu0, hf0⟩ := h0
  obtain ⟨fu1, hf1⟩ := h1
  obtain ⟨qa0, qc0, ks, e0, hkl, hks, hkz⟩ := open_row hf0
  obtain ⟨qa1, qc1, ls, e1, hll, hls, hlz⟩ := open_row hf1
  simp [Value.cells] at e0 e1
  obtain ⟨rfl, rfl, rfl⟩ := e0
  obtain ⟨rfl, rfl, rfl⟩ := e1
  clear hA0 hval0
  simp only [List.append_nil] at hW'
  have hlt0 : ∀ x ∈ p0, x.block < W.heap.size := fun x hx => hW'.lt x (by simp [hx])
  have hlt1 : ∀ x ∈ p1, x.block < W.heap.size := fun x hx => hW'.lt x (by simp [hx])
  refine (law5 F.told ks ls a0 a1 k0 k1 j f W hF hkl hll hks hls hkz hlz).mono fun e W' ⟨he, hB⟩ => ?_
  subst he
  refine ⟨_, rfl, _, _, _, [], p0 ++ p1, [], hW', ?_, ?_, ?_, hB.frame _, fun h => by cases h⟩
  · have e1 : (((OpenSpec.ofChange Rows.fnObjectCloseFailsUntilEveryMemberIsTakenSpec).at F.told).fn H ([d0, d1, .lit (.int .i64 j), .lit (.bool f)] ++ [])).results = [.lit (.bool true)] := by
      simp [Rows.fnObjectCloseFailsUntilEveryMemberIsTakenSpec, OpenSpec.at, OpenSpec.ofChange]
    rw [e1]
    exact trodAll_mk1 (shut_bool Tryf.underlying4 true)
  · have hb0 := Below.trod Tryf.laidOut (by kernel_rfl) (of_decide_eq_true (by kernel_rfl)) h0k hB (fun x hx => hlt0 x hx)
    have hb1 := Below.trod Tryf.laidOut (by kernel_rfl) (of_decide_eq_true (by kernel_rfl)) h1k hB (fun x hx => hlt1 x hx)
    have hm := trodAll_mk4 hb0 hb1 (shut_int Tryf.underlying3 wj) (shut_bool Tryf.underlying4 f)
    simp only [List.append_nil] at hm
    exact hm
  · rfl

theorem card5_holds : Rows.FnObjectCloseFailsUntilEveryMemberIsTakenToldSaid :=
  Claim7.holds_of_told_any 5 Tryf.f5 "fmt.Sprintf" ["fmt.errorf"] [] _ _ _ (by kernel_rfl) rfl rfl rfl Tryf.laidOut (by kernel_rfl) rfl ⟨rfl, rfl, rfl, rfl, rfl, rfl, rfl⟩ rfl rfl (by kernel_rfl) (by kernel_rfl) Tryf.func5 (by kernel_rfl)
    (of_decide_eq_true (by kernel_rfl)) (of_decide_eq_true (by kernel_rfl)) Tryf.stops.symm rfl Tryf.stopKnobs.symm (by kernel_rfl)
    (by kernel_rfl) (by kernel_rfl) (by kernel_rfl) (by kernel_rfl) (by kernel_rfl) (by kernel_rfl) (by kernel_rfl) (by kernel_rfl) (by kernel_rfl) rfl (by kernel_rfl) rfl rfl
    rfl rfl
    rfl (by kernel_rfl) (by kernel_rfl) (by kernel_rfl) (by decide) (by kernel_rfl)
    (OpenClaim.moreEntering_of (by kernel_rfl) (by kernel_rfl) (by kernel_rfl) (by kernel_rfl) (by kernel_rfl) (by kernel_rfl) (by kernel_rfl) (by kernel_rfl) (by kernel_rfl) (by kernel_rfl))
    ⟨_, WideRow.started_initial, Tryf.quiet _⟩
    (fun os started _ H enc _ => lifted5 os started H enc)

end Go.Proofs.Qxb6614591aFmt
