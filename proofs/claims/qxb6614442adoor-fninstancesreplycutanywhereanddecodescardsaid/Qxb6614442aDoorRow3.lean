import Derived.Test.Qxb6614442aDoorLaw3
import Derived.Test.Qxb6614442aDoorOpen
import Derived.Test.Qxb6614442aDoorOpenL
import Derived.Test.Qxb6614442aDoorOpenC
import Derived.Test.Qxb6614442aDoorTie
import Derived.Test.Qxb6614442aDoorCards
import Derived.OpenShut
import Derived.Stop.Joined
import Derived.SevenTiedAt
namespace Go.Proofs.Qxb6614442aDoor
open Go.ChangeShapes Go.WideShapes Go.ChangeAt Go.RowKit

theorem sameLaid3 : Rows.fnInstancesReplyCutAnywhereAndDecodesRow.laid = Rows.fnRouteWriteElemsDecodesInElemsValuesRow.laid := rfl

set_option maxRecDepth 100000 in
theorem lifted3 (os : Os) (started : os.Started) (H : Type) (enc : TypeId × Value → H) :
    ReturnsInHanded {} Tryd.checked os 3 .any (fun w args => (Rows.fnInstancesReplyCutAnywhereAndDecodesSpec.pre enc Tryd.prog Tryd.f3 [] false w args ∧ laidMetH Tryd.prog Rows.fnInstancesReplyCutAnywhereAndDecodesRow.laid w) ∧ sizedMet enc Tryd.prog Tryd.f3 (OpenSpec.ofChange Rows.fnInstancesReplyCutAnywhereAndDecodesSpec) false w args)
      (Rows.fnInstancesReplyCutAnywhereAndDecodesSpec.post enc Tryd.prog Tryd.f3 false true false false) := by
  rw [sameLaid3]
  refine returnsInHanded_of_change_and (C := Tryd.checked) (X := fun w _ => laidMetH Tryd.prog Rows.fnRouteWriteElemsDecodesInElemsValuesRow.laid w) (fun _ _ _ hh h => h.of_heap hh) Tryd.own started (by kernel_rfl) Tryd.func3
    (ChangeSpec.witness_shaped (enc := enc) (C := Tryd.checked) (os := os) (X := fun w _ => laidMetH Tryd.prog Rows.fnRouteWriteElemsDecodesInElemsValuesRow.laid w) false (World.doorLaid Tryd.prog 62 os) #[.int .i64 0, .slice none 0 0, .int .i64 0] 8 rfl (World.shaped_of_RefB (by kernel_rfl) (by kernel_rfl)) (by kernel_rfl) (by kernel_rfl) (by kernel_rfl) (door_met os _)) ?_
  intro W base args ds gs before hval0 hW _ _ hL _
  have hval : ∀ (j : Nat) t v, Tryd.f3.params[j]? = some t → args[j]? = some v → Value.okWide Tryd.prog W .any base t v := hval0
  have hW' := hW
  obtain ⟨p, q, hA0, hV, rfl, hfz, hnd⟩ := hW
  have hA : DataW.TrodAll enc Tryd.prog W 0 (fun _ => true) true Tryd.f3.params.toList args.toList ds p := hA0
  rw [Tryd.params3] at hA hval
  obtain ⟨v0, v1, v2, d0, d1, d2, p0, p1, p2, rfl, rfl, rfl, h0, h1, h2⟩ := trodAll_three hA
  obtain ⟨rfl, rfl⟩ := trodVars_none hV
  obtain ⟨rev, rfl, rfl, rfl, wr⟩ := open_int Tryd.underlying2 (hval 0 2 v0 rfl rfl) h0
  obtain ⟨kk, rfl, rfl, rfl, wk⟩ := open_int Tryd.underlying3 (hval 2 3 v2 rfl rfl) h2
  have h1k := h1
  obtain ⟨a1, l1, k1, rfl⟩ := okWide_slice Tryd.underlying22 (hval 1 22 v1 rfl rfl)
  obtain ⟨fu1, hf1⟩ := h1
  obtain ⟨qa, qc, qs, e1, hql, hqr, hqq⟩ := open_list Nd.cells _ Tryd.underlying22 c62 (by decide) each_n hf1
  have hcap : l1 ≤ k1 := slice_cap Tryd.underlying22 (by simpa [Value.cells] using hf1)
  simp [Value.cells] at e1
  obtain ⟨rfl, rfl, rfl⟩ := e1
  clear hA0 hval0
  simp only [List.append_nil, List.nil_append] at hW'
  have hlt : ∀ x ∈ p1, x.block < W.heap.size := fun x hx => by simpa using hW'.lt x hx
  refine (law3 rev kk qs a1 k1 hcap W (tab_of_laid hL) (wf_i64 wr) hql hqr (fun q hq => (hqq q hq).1) (fun q hq => (hqq q hq).2)).mono fun e W' ⟨he, hf⟩ => ?_
  subst he
  have hB : Below W.heap.size W W' := hf.below (Nat.le_refl _) (fun _ h => h.elim)
  refine ⟨_, rfl, _, _, _, [], p1, [], hW', ?_, ?_, ?_, hB.frame _, fun h => by cases h⟩
  · exact trodAll_mk1 (shut_bool Tryd.underlying4 true)
  · have hbk := Below.trod Tryd.laidOut (by kernel_rfl) (of_decide_eq_true (by kernel_rfl)) h1k hB (fun x hx => hlt x hx)
    have hm := trodAll_mk3 (shut_int Tryd.underlying2 wr) hbk (shut_int Tryd.underlying3 wk)
    simp only [List.nil_append, List.append_nil] at hm
    exact hm
  · rfl

theorem row3_holds : Rows.FnInstancesReplyCutAnywhereAndDecodesSaid :=
  OpenClaim.holds_of_wide 3 Tryd.f3 rfl rfl rfl rfl rfl rfl rfl ⟨rfl, rfl, rfl, rfl, rfl⟩ rfl rfl rfl rfl rfl (by kernel_rfl) Tryd.func3 (by kernel_rfl)
    (of_decide_eq_true (by kernel_rfl)) (by unfold Func.isWrapper; first | (rw [if_pos (by decide +kernel)]; kernel_rfl) | (rw [if_neg (by decide +kernel)]; exact ⟨rfl, rfl⟩))
    (fun os started H enc _ => lifted3 os started H enc)

theorem card3_holds : Rows.FnInstancesReplyCutAnywhereAndDecodesCardSaid :=
  Claim7.holds_tied_plain_at .later [] [.data, .data, .data, .sentinel] true Rows.fnInstancesReplyCutAnywhereAndDecodesCard.stood.harness true
    row3_holds (fun _ h => by cases h) (by kernel_rfl) (fun _ h => by cases h) fnInstancesReplyCutAnywhereAndDecodes_row_tie rfl ⟨rfl, rfl⟩ (by kernel_rfl) rfl
    (fun f fn hf hfn => by
      obtain rfl : f = 3 := Option.some.inj ((show Tryd.prog.funcNamed Rows.fnInstancesReplyCutAnywhereAndDecodesRow.func = some 3 by kernel_rfl).symm.trans hf) |>.symm
      obtain rfl : fn = Tryd.f3 := (Option.some.inj (Tryd.func3.symm.trans hfn)).symm
      exact ⟨by kernel_rfl, fun j t ht => by
        rw [Tryd.params3] at ht
        have hm : t ∈ [2, 22, 3] := by simpa using Array.mem_of_getElem? ht
        have hall : ([2, 22, 3].all fun u => !Tryd.prog.wantsStandIn u) = true := by kernel_rfl
        exact (show Tryd.prog.wantsStandIn t = false by simpa using List.all_eq_true.1 hall t hm)⟩)
    (by kernel_rfl)
end Go.Proofs.Qxb6614442aDoor
