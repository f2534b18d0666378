/- The law FnHQueries holds: for every input that can be read the call returns true and leaves its arguments as they were. -/
import Derived.Test.YtcgpajknehhdgaaDoorRows
import Derived.Test.YtcgpajknehhdgaaDoorK8
import Derived.Test.YtcgpajknehhdgaaDoorKT
import Derived.Test.YtcgpajknehhdgaaDoorVJ
import Derived.Test.YtcgpajknehhdgaaDoorV5
import Derived.WalkKit
import Derived.ProofKit
import Derived.OpenShut
import Derived.ShutString
import Derived.ChangeOld
import Derived.Below
import Derived.SizedLaws
import Derived.Lay
import Derived.LaidMore
import Derived.LaidHandle
import Derived.Stop.Joined
import Derived.MakeChecks
import Derived.SevenTiedAt
import Derived.Test.YtcgpajknehhdgaaDoorCards
import Derived.Test.YtcgpajknehhdgaaDoorTie
namespace Go.Proofs.YtcgpajknehhdgaaDoor.fnHQueries
open Go.ChangeShapes Go.WideShapes Go.ChangeAt Go.RowKit
open Go.ChangeMaps (open_string shut_string)
open Go.Proofs.YtcgpajknehhdgaaDoor Go.Proofs.YtcgpajknehhdgaaDoor.V 
set_option linter.unusedVariables false
theorem own : ownKnob Tryd.prog.godebug = none := by kernel_rfl
set_option maxRecDepth 100000 in
theorem lifted (os : Os) (started : os.Started) (H : Type) (enc : TypeId × Value → H) :
    ReturnsInHanded {} Tryd.checked os 5 .any (fun w args => (Rows.fnHQueriesSpec.pre enc Tryd.prog Tryd.f5 Rows.fnHQueriesRow.domain false w args ∧ laidMetH Tryd.prog Rows.fnHQueriesRow.laid w) ∧ sizedMet enc Tryd.prog Tryd.f5 (OpenSpec.ofChange Rows.fnHQueriesSpec) false w args)
      (Rows.fnHQueriesSpec.post enc Tryd.prog Tryd.f5 false true false false) := by
  refine returnsInHanded_of_change_and (C := Tryd.checked) (X := fun w _ => laidMetH Tryd.prog Rows.fnHQueriesRow.laid w) (fun _ _ _ hh h => h.of_heap hh) own started (by kernel_rfl) Tryd.func5
    (ChangeSpec.witness_shaped (enc := enc) (C := Tryd.checked) (os := os) (X := fun w _ => laidMetH Tryd.prog Rows.fnHQueriesRow.laid w) false (World.laidAll Tryd.prog os Rows.fnHQueriesRow.laid) #[.string ByteArray.empty, .string ByteArray.empty] 8 (World.laidAll_os _ _ _)
      (World.shaped_of_ZipB (by kernel_rfl) (by kernel_rfl)) (by kernel_rfl) (by kernel_rfl) (by kernel_rfl)
      (by rw [Go.MakeChecks.laidMetH_plain _ _ _ (by kernel_rfl)]; exact laidMet_laidAll _ (by kernel_rfl) (by kernel_rfl))) ?_
  intro W base args ds gs before hval0 hW hcnd hsz0 hL _
  have hsz : (DataW.weightsEach Tryd.prog (Tryd.f5.params.toList ++ Rows.fnHQueriesSpec.plain.varTypes Tryd.prog) (ds ++ gs)).all (· ≤ reachBytes) = true := hsz0
  have hval : ∀ (j : Nat) t v, Tryd.f5.params[j]? = some t → args[j]? = some v → Value.okWide Tryd.prog W .any base t v := hval0
  have hW' := hW
  obtain ⟨p, q, hA0, hV, rfl, hfz, hnd⟩ := hW
  have hA : DataW.TrodAll enc Tryd.prog W 0 (fun _ => true) true Tryd.f5.params.toList args.toList ds p := hA0
  rw [Tryd.params5] at hA hval hsz
  obtain ⟨v0, vs0, d0, ds0, p0, q0, hargs, rfl, rfl, h0, r0⟩ := trodAll_cons hA
  obtain ⟨v1, vs1, d1, ds1, p1, q1, rfl, rfl, rfl, h1, r1⟩ := trodAll_cons r0
  obtain ⟨rfl, rfl, rfl⟩ := trodAll_nil r1
  obtain rfl : args = #[v0, v1] := by cases args; simp_all
  obtain ⟨rfl, rfl⟩ := trodVars_none hV
  obtain ⟨a0, rfl, rfl, rfl, y0⟩ := open_string Tryd.underlying9 (hval 0 9 v0 rfl rfl) h0
  have w0 : a0.size ≤ 140737488351232 := by
    have z := sized_string hsz (j := 0) (t := 9) rfl rfl
    rw [Array.length_toList] at z
    exact z
  have y0k := y0
  obtain ⟨⟨l0⟩⟩ := a0
  replace w0 : l0.length ≤ 140737488351232 := w0
  obtain ⟨a1, rfl, rfl, rfl, y1⟩ := open_string Tryd.underlying9 (hval 1 9 v1 rfl rfl) h1
  have w1 : a1.size ≤ 140737488351232 := by
    have z := sized_string hsz (j := 1) (t := 9) rfl rfl
    rw [Array.length_toList] at z
    exact z
  have y1k := y1
  obtain ⟨⟨l1⟩⟩ := a1
  replace w1 : l1.length ≤ 140737488351232 := w1
  clear hA0 hval0 hsz0 hsz
  obtain ⟨G, hT0, hasG⟩ := KT.tabs_queries (show laidMetH Tryd.prog Rows.fnHQueriesRow.laid W from hL)
  obtain ⟨C, hasC, inG⟩ := has_all1 hasG
  have hT := KT.Tabs.weaken hT0 hasG.nodup inG
  refine (K8.law C hT l0 l1 W hasC).mono fun e W' ⟨he, hst⟩ => ?_
  have bel := St.belowR hasC hst
  subst he
  exact ⟨_, rfl, _, _, _, [], _, [], hW', trodAll_mk1 (shut_bool Tryd.underlying4 _), (trodAll_cons_mk (shut_string Tryd.underlying9 y0k) (trodAll_cons_mk (shut_string Tryd.underlying9 y1k) trodAll_mk0)), rfl, bel.frame _, fun h => by cases h⟩
theorem over : Rows.fnHQueriesRow.holds Tryd.pinned (OpenSpec.ofChange Rows.fnHQueriesSpec) :=
  OpenClaim.holds_of_wide 5 Tryd.f5 rfl rfl rfl rfl rfl rfl rfl ⟨rfl, rfl, rfl, rfl, rfl⟩ rfl rfl rfl rfl rfl (by kernel_rfl) Tryd.func5 (by kernel_rfl)
    (of_decide_eq_true (by kernel_rfl)) (by unfold Func.isWrapper; first | (rw [if_pos (by decide +kernel)]; kernel_rfl) | (rw [if_neg (by decide +kernel)]; exact ⟨rfl, rfl⟩))
    (fun os started H enc _ => lifted os started H enc)
theorem proved : Rows.FnHQueriesSaid := over
#print axioms proved
end Go.Proofs.YtcgpajknehhdgaaDoor.fnHQueries
namespace Go.Proofs.YtcgpajknehhdgaaDoor
/-- The row, under a short name, for the claim. -/
theorem fnHQueries_holds : Rows.FnHQueriesSaid := fnHQueries.proved
/-- The tied card. -/
theorem fnHQueries_card : Rows.FnHQueriesCardSaid :=
  Claim7.holds_tied_plain_at .later [] [.data, .pinned] true (true, "53580b00d0226272c5b7c91e4dbf55b12e70c023e28901d0acd9f2dfb3ff7fe2") true
    fnHQueries.over (fun _ h => by cases h) (by kernel_rfl) (fun _ h => by cases h) fnHQueries_row_tie rfl ⟨rfl, rfl⟩ (by kernel_rfl) rfl
    (fun f fn hf hfn => by
      obtain rfl : f = 5 := Option.some.inj ((show Tryd.prog.funcNamed "given.example/pub-tinwright/laws.FnHQueries" = some 5 by kernel_rfl).symm.trans hf) |>.symm
      obtain rfl : fn = Tryd.f5 := (Option.some.inj (Tryd.func5.symm.trans hfn)).symm
      exact ⟨by kernel_rfl, fun j t ht => by
        rw [Tryd.params5] at ht
        have hm : t ∈ (#[9, 9] : Array TypeId) := Array.mem_of_getElem? ht
        simp only [List.mem_toArray, List.mem_cons, List.not_mem_nil, or_false] at hm
        rcases hm with rfl | rfl
        · exact (show Tryd.prog.wantsStandIn 9 = false by kernel_rfl)
        · exact (show Tryd.prog.wantsStandIn 9 = false by kernel_rfl)⟩)
    (by kernel_rfl)
#print axioms fnHQueries_card
end Go.Proofs.YtcgpajknehhdgaaDoor
