import Derived.Test.Qxb6614591aFmtBase
import Derived.Test.Qxb6614591aFmtLawd
import Derived.Test.Qxb6614591aFmtFive
namespace Go.Proofs.Qxb6614591aFmt
open Go.ChangeShapes Go.WideShapes Go.ChangeAt Go.RowKit Go.Kit
open Go.ChangeMaps (open_string shut_string)
open Go.Extern.Stop Go.Stop Go.Extern

set_option maxRecDepth 100000 in
theorem lifted6 (os : Os) (started : os.Started) (H : Type) (enc : TypeId × Value → H) :
    ReturnsInTold none {} Tryf.checked os 6 .any Input.okWide ((OpenSpec.ofChange Rows.fnObjectCloseIgnoresATakenKeyPutInAnywhereSpec).preRow enc Tryf.prog Tryf.f6 [] false []) (fun F => ((OpenSpec.ofChange Rows.fnObjectCloseIgnoresATakenKeyPutInAnywhereSpec).at F).post enc Tryf.prog Tryf.f6 false true false false) (aloneAtReturn Tryf.prog) nothingAlways := by
  refine returnsInTold_of_row (C := Tryf.checked) (s := OpenSpec.ofChange Rows.fnObjectCloseIgnoresATakenKeyPutInAnywhereSpec) (by kernel_rfl) Tryf.own started (by kernel_rfl) Tryf.func6
    (OpenSpec.witness_stopped (enc := enc) (C := Tryf.checked) false ⟨#[], #[.slice none 0 0, .int .i64 0, .string ⟨#[]⟩, .slice none 0 0, .bool false], []⟩ 8 (by kernel_rfl) (by kernel_rfl) (by kernel_rfl) (by kernel_rfl)) ?_
  intro F W base args ds gs before _ hF hval0 hW _ _ _ _ _
  have hval : ∀ (j : Nat) t v, Tryf.f6.params[j]? = some t → args[j]? = some v → Value.okWide Tryf.prog W .any base t v := hval0
  have hW' := hW
  obtain ⟨p, q, hA0, hV, rfl, hfz, hnd⟩ := hW
  have hA : DataW.TrodAll enc Tryf.prog W 0 (fun _ => true) true Tryf.f6.params.toList args.toList ds p := hA0
  rw [Tryf.params6] at hA hval
  obtain ⟨v0, v1, v2, v3, v4, d0, d1, d2, d3, d4, p0, p1, p2, p3, p4, rfl, rfl, rfl, h0, h1, h2, h3, h4⟩ := trodAll_five hA
  obtain ⟨rfl, rfl⟩ := trodVars_none hV
  obtain ⟨a, rfl, rfl, rfl, wa⟩ := open_int Tryf.underlying3 (hval 1 3 v1 rfl rfl) h1
  obtain ⟨x, rfl, rfl, rfl, wx⟩ := open_string Tryf.underlying9 (hval 2 9 v2 rfl rfl) h2
  obtain ⟨f, rfl, rfl, rfl⟩ := open_bool Tryf.underlying4 (hval 4 4 v4 rfl rfl) h4
  have h0k := h0
  have h3k := h3
  obtain ⟨a0, l0, k0, rfl⟩ := okWide_slice Tryf.underlying32 (hval 0 32 v0 rfl rfl)
  obtain ⟨a1, l1, k1, rfl⟩ := okWide_slice Tryf.underlying32 (hval 3 32 v3 rfl rfl)
  obtain ⟨fu0, hf0⟩ := h0
  obtain ⟨fu1, hf1⟩ := h3
  obtain ⟨qa0, qc0, ks, e0, hkl, hks, hkz⟩ := open_row hf0
  obtain ⟨qa1, qc1, ls, e1, hll, hls, hlz⟩ := open_row hf1
  simp [Value.cells] at e0 e1
  obtain ⟨rfl, rfl, rfl⟩ := e0
  obtain ⟨rfl, rfl, rfl⟩ := e1
  clear hA0 hval0
  simp only [List.append_nil] at hW'
  have hlt0 : ∀ x ∈ p0, x.block < W.heap.size := fun x hx => hW'.lt x (by simp [hx])
  have hlt1 : ∀ x ∈ p3, x.block < W.heap.size := fun x hx => hW'.lt x (by simp [hx])
  have wx' : x.size ≤ 9223372036854775807 := by unfold maxLen at wx; omega
  refine (law6 F.told ks ls a0 a1 k0 k1 a x f W hF wx' hkl hll hks hls hkz hlz).mono fun e W' ⟨he, hB⟩ => ?_
  subst he
  refine ⟨_, rfl, _, _, _, [], p0 ++ p3, [], hW', ?_, ?_, ?_, hB.frame _, fun h => by cases h⟩
  · have e1 : (((OpenSpec.ofChange Rows.fnObjectCloseIgnoresATakenKeyPutInAnywhereSpec).at F.told).fn H ([d0, .lit (.int .i64 a), .lit (.string x.data.toList), d3, .lit (.bool f)] ++ [])).results = [.lit (.bool true)] := by
      simp [Rows.fnObjectCloseIgnoresATakenKeyPutInAnywhereSpec, OpenSpec.at, OpenSpec.ofChange]
    rw [e1]
    exact trodAll_mk1 (shut_bool Tryf.underlying4 true)
  · have hb0 := Below.trod Tryf.laidOut (by kernel_rfl) (of_decide_eq_true (by kernel_rfl)) h0k hB (fun x hx => hlt0 x hx)
    have hb1 := Below.trod Tryf.laidOut (by kernel_rfl) (of_decide_eq_true (by kernel_rfl)) h3k hB (fun x hx => hlt1 x hx)
    have hm := trodAll_mk5 hb0 (shut_int Tryf.underlying3 wa) (shut_string Tryf.underlying9 wx) hb1 (shut_bool Tryf.underlying4 f)
    simp only [List.append_nil, List.nil_append] at hm
    exact hm
  · rfl

theorem card6_holds : Rows.FnObjectCloseIgnoresATakenKeyPutInAnywhereToldSaid :=
  Claim7.holds_of_told_any 6 Tryf.f6 "fmt.Sprintf" ["fmt.errorf"] [] _ _ _ (by kernel_rfl) rfl rfl rfl Tryf.laidOut (by kernel_rfl) rfl ⟨rfl, rfl, rfl, rfl, rfl, rfl, rfl⟩ rfl rfl (by kernel_rfl) (by kernel_rfl) Tryf.func6 (by kernel_rfl)
    (of_decide_eq_true (by kernel_rfl)) (of_decide_eq_true (by kernel_rfl)) Tryf.stops.symm rfl Tryf.stopKnobs.symm (by kernel_rfl)
    (by kernel_rfl) (by kernel_rfl) (by kernel_rfl) (by kernel_rfl) (by kernel_rfl) (by kernel_rfl) (by kernel_rfl) (by kernel_rfl) (by kernel_rfl) rfl (by kernel_rfl) rfl rfl
    rfl rfl
    rfl (by kernel_rfl) (by kernel_rfl) (by kernel_rfl) (by decide) (by kernel_rfl)
    (OpenClaim.moreEntering_of (by kernel_rfl) (by kernel_rfl) (by kernel_rfl) (by kernel_rfl) (by kernel_rfl) (by kernel_rfl) (by kernel_rfl) (by kernel_rfl) (by kernel_rfl) (by kernel_rfl))
    ⟨_, WideRow.started_initial, Tryf.quiet _⟩
    (fun os started _ H enc _ => lifted6 os started H enc)

end Go.Proofs.Qxb6614591aFmt
