/- The law FnVReads holds: for every input that can be read the call returns true and leaves its arguments as they were. -/
import Derived.Test.YtodlhaghdplclaaGreatDoorRows
import Derived.Test.YtodlhaghdplclaaGreatDoorQ5
import Derived.Test.YtodlhaghdplclaaGreatDoorQ2
import Derived.Test.YtodlhaghdplclaaGreatDoorQ0
import Derived.WalkKit
import Derived.ProofKit
import Derived.OpenShut
import Derived.ShutString
import Derived.ChangeOld
import Derived.Below
import Derived.SizedLaws
import Derived.Lay
import Derived.LaidMore
import Derived.LaidHandle
import Derived.Stop.Joined
import Derived.MakeChecks
import Derived.SevenTiedAt
import Derived.Test.YtodlhaghdplclaaGreatDoorCards
import Derived.Test.YtodlhaghdplclaaGreatDoorTie
namespace Go.Proofs.YtodlhaghdplclaaGreatDoor.fnVReads
open Go.ChangeShapes Go.WideShapes Go.ChangeAt Go.RowKit
open Go.ChangeMaps (open_string shut_string)
open Go.Proofs.YtodlhaghdplclaaGreatDoor Go.Proofs.YtodlhaghdplclaaGreatDoor.V 
set_option linter.unusedVariables false
theorem own : ownKnob Tryz.prog.godebug = none := by kernel_rfl
theorem laidOut : laidOutB Tryz.prog = true := by kernel_rfl
set_option maxRecDepth 100000 in
theorem lifted (os : Os) (started : os.Started) (H : Type) (enc : TypeId × Value → H) :
    ReturnsInHanded {} Tryz.checked os 6 .any (fun w args => (Rows.fnVReadsSpec.pre enc Tryz.prog Tryz.f6 Rows.fnVReadsRow.domain false w args ∧ laidMetH Tryz.prog Rows.fnVReadsRow.laid w) ∧ sizedMet enc Tryz.prog Tryz.f6 (OpenSpec.ofChange Rows.fnVReadsSpec) false w args)
      (Rows.fnVReadsSpec.post enc Tryz.prog Tryz.f6 false true false false) := by
  refine returnsInHanded_of_change_and (C := Tryz.checked) (X := fun w _ => laidMetH Tryz.prog Rows.fnVReadsRow.laid w) (fun _ _ _ hh h => h.of_heap hh) own started (by kernel_rfl) Tryz.func6
    (ChangeSpec.witness_shaped (enc := enc) (C := Tryz.checked) (os := os) (X := fun w _ => laidMetH Tryz.prog Rows.fnVReadsRow.laid w) false (World.laidAll Tryz.prog os Rows.fnVReadsRow.laid) #[.slice none 0 0] 8 (World.laidAll_os _ _ _)
      (World.shaped_of_ZipB (by kernel_rfl) (by kernel_rfl)) (by kernel_rfl) (by kernel_rfl) (by kernel_rfl)
      (by rw [Go.MakeChecks.laidMetH_plain _ _ _ (by kernel_rfl)]; exact laidMet_laidAll _ (by kernel_rfl) (by kernel_rfl))) ?_
  intro W base args ds gs before hval0 hW hcnd hsz0 hL _
  have hsz : (DataW.weightsEach Tryz.prog (Tryz.f6.params.toList ++ Rows.fnVReadsSpec.plain.varTypes Tryz.prog) (ds ++ gs)).all (· ≤ reachBytes) = true := hsz0
  have hval : ∀ (j : Nat) t v, Tryz.f6.params[j]? = some t → args[j]? = some v → Value.okWide Tryz.prog W .any base t v := hval0
  have hW' := hW
  obtain ⟨p, q, hA0, hV, rfl, hfz, hnd⟩ := hW
  have hA : DataW.TrodAll enc Tryz.prog W 0 (fun _ => true) true Tryz.f6.params.toList args.toList ds p := hA0
  rw [Tryz.params6] at hA hval hsz
  obtain ⟨v0, vs0, d0, ds0, p0, q0, hargs, rfl, rfl, h0, r0⟩ := trodAll_cons hA
  obtain ⟨rfl, rfl, rfl⟩ := trodAll_nil r0
  obtain rfl : args = #[v0] := by cases args; simp_all
  obtain ⟨rfl, rfl⟩ := trodVars_none hV
  have k0 := h0
  have lt0 : ∀ x ∈ p0, x.block < W.heap.size := by obtain ⟨m, hm⟩ := k0; exact DataW.trod_lt m _ _ _ hm
  obtain ⟨l0, A0, has0, rd0, len0⟩ := arg_bytes Tryz.underlying28 Tryz.underlying5 (by kernel_rfl) (hval 0 28 v0 rfl rfl) h0
  clear hA0 hval0 hsz0 hsz
  obtain ⟨G, pE, pU, hasG, sn0⟩ := DN.sn_laid (show laidMetH Tryz.prog Rows.fnVBackRow.laid W from hL)
  obtain ⟨C, hasC, in0, inG⟩ := has_all2 has0 hasG
  have rd0 := rd0.weaken in0
  have hS := sn0.weaken inG
  refine (DV.lawReads C _ _ rd0 _ pE pU hS W hasC).mono fun e W' ⟨he, hst⟩ => ?_
  have bel := St.belowR hasC hst
  subst he
  exact ⟨_, rfl, _, _, _, [], _, [], hW', trodAll_mk1 (shut_bool Tryz.underlying4 _), (trodAll_cons_mk (Below.trod laidOut (by kernel_rfl) (of_decide_eq_true (by kernel_rfl)) k0 bel lt0) trodAll_mk0), rfl, bel.frame _, fun h => by cases h⟩
theorem over : Rows.fnVReadsRow.holds Tryz.pinned (OpenSpec.ofChange Rows.fnVReadsSpec) :=
  OpenClaim.holds_of_wide 6 Tryz.f6 rfl rfl rfl rfl rfl rfl rfl ⟨rfl, rfl, rfl, rfl, rfl⟩ rfl rfl rfl rfl rfl (by kernel_rfl) Tryz.func6 (by kernel_rfl)
    (of_decide_eq_true (by kernel_rfl)) (by unfold Func.isWrapper; first | (rw [if_pos (by decide +kernel)]; kernel_rfl) | (rw [if_neg (by decide +kernel)]; exact ⟨rfl, rfl⟩))
    (fun os started H enc _ => lifted os started H enc)
theorem proved : Rows.FnVReadsSaid := over
#print axioms proved
end Go.Proofs.YtodlhaghdplclaaGreatDoor.fnVReads
namespace Go.Proofs.YtodlhaghdplclaaGreatDoor
/-- The row, under a short name, for the claim. -/
theorem fnVReads_holds : Rows.FnVReadsSaid := fnVReads.proved
/-- The tied card. -/
theorem fnVReads_card : Rows.FnVReadsCardSaid :=
  Claim7.holds_tied_plain_at .later [] [.sentinel, .sentinel, .sentinel, .sentinel, .sentinel] true (true, "9b9981c4493ddaea8d3034c4c37eb073add2996763aee44d9c96a0ef4e317c2c") true
    fnVReads.over (fun _ h => by cases h) (by kernel_rfl) (fun _ h => by cases h) fnVReads_row_tie rfl ⟨rfl, rfl⟩ (by kernel_rfl) rfl
    (fun f fn hf hfn => by
      obtain rfl : f = 6 := Option.some.inj ((show Tryz.prog.funcNamed "given.example/pub-tinwright/laws.FnVReads" = some 6 by kernel_rfl).symm.trans hf) |>.symm
      obtain rfl : fn = Tryz.f6 := (Option.some.inj (Tryz.func6.symm.trans hfn)).symm
      exact ⟨by kernel_rfl, fun j t ht => by
        rw [Tryz.params6] at ht
        have hm : t ∈ (#[28] : Array TypeId) := Array.mem_of_getElem? ht
        simp only [List.mem_toArray, List.mem_cons, List.not_mem_nil, or_false] at hm
        rcases hm with rfl
        · exact (show Tryz.prog.wantsStandIn 28 = false by kernel_rfl)⟩)
    (by kernel_rfl)
#print axioms fnVReads_card
end Go.Proofs.YtodlhaghdplclaaGreatDoor
