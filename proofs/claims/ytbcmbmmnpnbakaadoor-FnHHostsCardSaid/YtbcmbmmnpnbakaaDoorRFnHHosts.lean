/- The law FnHHosts holds: for every input that can be read the call returns true and leaves its arguments as they were. -/
import Derived.Test.YtbcmbmmnpnbakaaDoorRows
import Derived.Test.YtbcmbmmnpnbakaaDoorN3
import Derived.Test.YtbcmbmmnpnbakaaDoorHT
import Derived.Test.YtbcmbmmnpnbakaaDoorVJ
import Derived.Test.YtbcmbmmnpnbakaaDoorV5
import Derived.WalkKit
import Derived.ProofKit
import Derived.OpenShut
import Derived.ShutString
import Derived.ChangeOld
import Derived.Below
import Derived.SizedLaws
import Derived.Lay
import Derived.LaidMore
import Derived.LaidHandle
import Derived.Stop.Joined
import Derived.MakeChecks
import Derived.SevenTiedAt
import Derived.Test.YtbcmbmmnpnbakaaDoorCards
import Derived.Test.YtbcmbmmnpnbakaaDoorTie
namespace Go.Proofs.YtbcmbmmnpnbakaaDoor.fnHHosts
open Go.ChangeShapes Go.WideShapes Go.ChangeAt Go.RowKit
open Go.ChangeMaps (open_string shut_string)
open Go.Proofs.YtbcmbmmnpnbakaaDoor Go.Proofs.YtbcmbmmnpnbakaaDoor.V 
set_option linter.unusedVariables false
theorem own : ownKnob Tryd.prog.godebug = none := by kernel_rfl
set_option maxRecDepth 100000 in
theorem lifted (os : Os) (started : os.Started) (H : Type) (enc : TypeId × Value → H) :
    ReturnsInHanded {} Tryd.checked os 3 .any (fun w args => (Rows.fnHHostsSpec.pre enc Tryd.prog Tryd.f3 Rows.fnHHostsRow.domain false w args ∧ laidMetH Tryd.prog Rows.fnHHostsRow.laid w) ∧ sizedMet enc Tryd.prog Tryd.f3 (OpenSpec.ofChange Rows.fnHHostsSpec) false w args)
      (Rows.fnHHostsSpec.post enc Tryd.prog Tryd.f3 false true false false) := by
  refine returnsInHanded_of_change_and (C := Tryd.checked) (X := fun w _ => laidMetH Tryd.prog Rows.fnHHostsRow.laid w) (fun _ _ _ hh h => h.of_heap hh) own started (by kernel_rfl) Tryd.func3
    (ChangeSpec.witness_shaped (enc := enc) (C := Tryd.checked) (os := os) (X := fun w _ => laidMetH Tryd.prog Rows.fnHHostsRow.laid w) false (World.laidAll Tryd.prog os Rows.fnHHostsRow.laid) #[.string ByteArray.empty] 8 (World.laidAll_os _ _ _)
      (World.shaped_of_ZipB (by kernel_rfl) (by kernel_rfl)) (by kernel_rfl) (by kernel_rfl) (by kernel_rfl)
      (by rw [Go.MakeChecks.laidMetH_plain _ _ _ (by kernel_rfl)]; exact laidMet_laidAll _ (by kernel_rfl) (by kernel_rfl))) ?_
  intro W base args ds gs before hval0 hW hcnd hsz0 hL _
  have hsz : (DataW.weightsEach Tryd.prog (Tryd.f3.params.toList ++ Rows.fnHHostsSpec.plain.varTypes Tryd.prog) (ds ++ gs)).all (· ≤ reachBytes) = true := hsz0
  have hval : ∀ (j : Nat) t v, Tryd.f3.params[j]? = some t → args[j]? = some v → Value.okWide Tryd.prog W .any base t v := hval0
  have hW' := hW
  obtain ⟨p, q, hA0, hV, rfl, hfz, hnd⟩ := hW
  have hA : DataW.TrodAll enc Tryd.prog W 0 (fun _ => true) true Tryd.f3.params.toList args.toList ds p := hA0
  rw [Tryd.params3] at hA hval hsz
  obtain ⟨v0, vs0, d0, ds0, p0, q0, hargs, rfl, rfl, h0, r0⟩ := trodAll_cons hA
  obtain ⟨rfl, rfl, rfl⟩ := trodAll_nil r0
  obtain rfl : args = #[v0] := by cases args; simp_all
  obtain ⟨rfl, rfl⟩ := trodVars_none hV
  obtain ⟨a0, rfl, rfl, rfl, y0⟩ := open_string Tryd.underlying9 (hval 0 9 v0 rfl rfl) h0
  have w0 : a0.size ≤ 140737488351232 := by
    have z := sized_string hsz (j := 0) (t := 9) rfl rfl
    rw [Array.length_toList] at z
    exact z
  have y0k := y0
  obtain ⟨⟨l0⟩⟩ := a0
  replace w0 : l0.length ≤ 140737488351232 := w0
  clear hA0 hval0 hsz0 hsz
  obtain ⟨G, hasG, he0⟩ := HT.hosts_laid (show laidMetH Tryd.prog Rows.fnHHostsRow.laid W from hL)
  obtain ⟨C, hasC, inG⟩ := has_all1 hasG
  have hE := HB.HE.weaken he0 inG
  refine (N3.law C hE l0 W hasC).mono fun e W' ⟨he, hst⟩ => ?_
  have bel := St.belowR hasC hst
  subst he
  exact ⟨_, rfl, _, _, _, [], _, [], hW', trodAll_mk1 (shut_bool Tryd.underlying4 _), (trodAll_cons_mk (shut_string Tryd.underlying9 y0k) trodAll_mk0), rfl, bel.frame _, fun h => by cases h⟩
theorem over : Rows.fnHHostsRow.holds Tryd.pinned (OpenSpec.ofChange Rows.fnHHostsSpec) :=
  OpenClaim.holds_of_wide 3 Tryd.f3 rfl rfl rfl rfl rfl rfl rfl ⟨rfl, rfl, rfl, rfl, rfl⟩ rfl rfl rfl rfl rfl (by kernel_rfl) Tryd.func3 (by kernel_rfl)
    (of_decide_eq_true (by kernel_rfl)) (by unfold Func.isWrapper; first | (rw [if_pos (by decide +kernel)]; kernel_rfl) | (rw [if_neg (by decide +kernel)]; exact ⟨rfl, rfl⟩))
    (fun os started H enc _ => lifted os started H enc)
theorem proved : Rows.FnHHostsSaid := over
#print axioms proved
end Go.Proofs.YtbcmbmmnpnbakaaDoor.fnHHosts
namespace Go.Proofs.YtbcmbmmnpnbakaaDoor
/-- The row, under a short name, for the claim. -/
theorem fnHHosts_holds : Rows.FnHHostsSaid := fnHHosts.proved
/-- The tied card. -/
theorem fnHHosts_card : Rows.FnHHostsCardSaid :=
  Claim7.holds_tied_plain_at .later [] [.data, .data, .data, .sentinel, .sentinel] true (true, "728cf3cf879bf936ddcd40c92958056cd8ef96ea17f7e55aa4637a97f15639ce") true
    fnHHosts.over (fun _ h => by cases h) (by kernel_rfl) (fun _ h => by cases h) fnHHosts_row_tie rfl ⟨rfl, rfl⟩ (by kernel_rfl) rfl
    (fun f fn hf hfn => by
      obtain rfl : f = 3 := Option.some.inj ((show Tryd.prog.funcNamed "given.example/pub-tinwright/laws.FnHHosts" = some 3 by kernel_rfl).symm.trans hf) |>.symm
      obtain rfl : fn = Tryd.f3 := (Option.some.inj (Tryd.func3.symm.trans hfn)).symm
      exact ⟨by kernel_rfl, fun j t ht => by
        rw [Tryd.params3] at ht
        have hm : t ∈ (#[9] : Array TypeId) := Array.mem_of_getElem? ht
        simp only [List.mem_toArray, List.mem_cons, List.not_mem_nil, or_false] at hm
        rcases hm with rfl
        · exact (show Tryd.prog.wantsStandIn 9 = false by kernel_rfl)⟩)
    (by kernel_rfl)
#print axioms fnHHosts_card
end Go.Proofs.YtbcmbmmnpnbakaaDoor
