/- The law FnVBack holds: for every input that can be read the call returns true and leaves its arguments as they were. -/
import Derived.Test.YtodlhaghdplclaaGreatDoorRows
import Derived.Test.YtodlhaghdplclaaGreatDoorQ5
import Derived.Test.YtodlhaghdplclaaGreatDoorQ2
import Derived.Test.YtodlhaghdplclaaGreatDoorQ0
import Derived.WalkKit
import Derived.ProofKit
import Derived.OpenShut
import Derived.ShutString
import Derived.ChangeOld
import Derived.Below
import Derived.SizedLaws
import Derived.Lay
import Derived.LaidMore
import Derived.LaidHandle
import Derived.Stop.Joined
import Derived.MakeChecks
import Derived.SevenTiedAt
import Derived.Test.YtodlhaghdplclaaGreatDoorCards
import Derived.Test.YtodlhaghdplclaaGreatDoorTie
namespace Go.Proofs.YtodlhaghdplclaaGreatDoor.fnVBack
open Go.ChangeShapes Go.WideShapes Go.ChangeAt Go.RowKit
open Go.ChangeMaps (open_string shut_string)
open Go.Proofs.YtodlhaghdplclaaGreatDoor Go.Proofs.YtodlhaghdplclaaGreatDoor.V 
set_option linter.unusedVariables false
theorem own : ownKnob Tryz.prog.godebug = none := by kernel_rfl
theorem laidOut : laidOutB Tryz.prog = true := by kernel_rfl
set_option maxRecDepth 100000 in
theorem lifted (os : Os) (started : os.Started) (H : Type) (enc : TypeId × Value → H) :
    ReturnsInHanded {} Tryz.checked os 5 .any (fun w args => (Rows.fnVBackSpec.pre enc Tryz.prog Tryz.f5 Rows.fnVBackRow.domain false w args ∧ laidMetH Tryz.prog Rows.fnVBackRow.laid w) ∧ sizedMet enc Tryz.prog Tryz.f5 (OpenSpec.ofChange Rows.fnVBackSpec) false w args)
      (Rows.fnVBackSpec.post enc Tryz.prog Tryz.f5 false true false false) := by
  refine returnsInHanded_of_change_and (C := Tryz.checked) (X := fun w _ => laidMetH Tryz.prog Rows.fnVBackRow.laid w) (fun _ _ _ hh h => h.of_heap hh) own started (by kernel_rfl) Tryz.func5
    (ChangeSpec.witness_shaped (enc := enc) (C := Tryz.checked) (os := os) (X := fun w _ => laidMetH Tryz.prog Rows.fnVBackRow.laid w) false (World.laidAll Tryz.prog os Rows.fnVBackRow.laid) #[(.agg #[(.slice none 0 0), (.slice none 0 0)]), .slice none 0 0] 8 (World.laidAll_os _ _ _)
      (World.shaped_of_ZipB (by kernel_rfl) (by kernel_rfl)) (by kernel_rfl) (by kernel_rfl) (by kernel_rfl)
      (by rw [Go.MakeChecks.laidMetH_plain _ _ _ (by kernel_rfl)]; exact laidMet_laidAll _ (by kernel_rfl) (by kernel_rfl))) ?_
  intro W base args ds gs before hval0 hW hcnd hsz0 hL _
  have hsz : (DataW.weightsEach Tryz.prog (Tryz.f5.params.toList ++ Rows.fnVBackSpec.plain.varTypes Tryz.prog) (ds ++ gs)).all (· ≤ reachBytes) = true := hsz0
  have hval : ∀ (j : Nat) t v, Tryz.f5.params[j]? = some t → args[j]? = some v → Value.okWide Tryz.prog W .any base t v := hval0
  have hW' := hW
  obtain ⟨p, q, hA0, hV, rfl, hfz, hnd⟩ := hW
  have hA : DataW.TrodAll enc Tryz.prog W 0 (fun _ => true) true Tryz.f5.params.toList args.toList ds p := hA0
  rw [Tryz.params5] at hA hval hsz
  obtain ⟨v0, vs0, d0, ds0, p0, q0, hargs, rfl, rfl, h0, r0⟩ := trodAll_cons hA
  obtain ⟨v1, vs1, d1, ds1, p1, q1, rfl, rfl, rfl, h1, r1⟩ := trodAll_cons r0
  obtain ⟨rfl, rfl, rfl⟩ := trodAll_nil r1
  obtain rfl : args = #[v0, v1] := by cases args; simp_all
  obtain ⟨rfl, rfl⟩ := trodVars_none hV
  have k0 := h0
  have lt0 : ∀ x ∈ p0, x.block < W.heap.size := by obtain ⟨m, hm⟩ := k0; exact DataW.trod_lt m _ _ _ hm
  obtain ⟨x0, A0, rfl, has0, rd0⟩ := ET.arg_msg (hval 0 30 v0 rfl rfl) h0
  have k1 := h1
  have lt1 : ∀ x ∈ p1, x.block < W.heap.size := by obtain ⟨m, hm⟩ := k1; exact DataW.trod_lt m _ _ _ hm
  obtain ⟨l1, A1, has1, rd1, len1⟩ := arg_bytes Tryz.underlying28 Tryz.underlying5 (by kernel_rfl) (hval 1 28 v1 rfl rfl) h1
  clear hA0 hval0 hsz0 hsz
  obtain ⟨G, pE, pU, hasG, sn0⟩ := DN.sn_laid (show laidMetH Tryz.prog Rows.fnVBackRow.laid W from hL)
  obtain ⟨C, hasC, in0, in1, inG⟩ := has_all3 has0 has1 hasG
  have rd0 := rd0.weaken in0
  have rd1 := rd1.weaken in1
  have hS := sn0.weaken inG
  refine (DR.lawBack C x0.vh x0.l rd0.rd rd0.int x0.pp x0.pc x0.data rd0.rdp _ _ rd1 _ pE pU hS W hasC).mono fun e W' ⟨he, hst⟩ => ?_
  have bel := St.belowR hasC hst
  subst he
  exact ⟨_, rfl, _, _, _, [], _, [], hW', trodAll_mk1 (shut_bool Tryz.underlying4 _), (trodAll_cons_mk (Below.trod laidOut (by kernel_rfl) (of_decide_eq_true (by kernel_rfl)) k0 bel lt0) (trodAll_cons_mk (Below.trod laidOut (by kernel_rfl) (of_decide_eq_true (by kernel_rfl)) k1 bel lt1) trodAll_mk0)), rfl, bel.frame _, fun h => by cases h⟩
theorem over : Rows.fnVBackRow.holds Tryz.pinned (OpenSpec.ofChange Rows.fnVBackSpec) :=
  OpenClaim.holds_of_wide 5 Tryz.f5 rfl rfl rfl rfl rfl rfl rfl ⟨rfl, rfl, rfl, rfl, rfl⟩ rfl rfl rfl rfl rfl (by kernel_rfl) Tryz.func5 (by kernel_rfl)
    (of_decide_eq_true (by kernel_rfl)) (by unfold Func.isWrapper; first | (rw [if_pos (by decide +kernel)]; kernel_rfl) | (rw [if_neg (by decide +kernel)]; exact ⟨rfl, rfl⟩))
    (fun os started H enc _ => lifted os started H enc)
theorem proved : Rows.FnVBackSaid := over
#print axioms proved
end Go.Proofs.YtodlhaghdplclaaGreatDoor.fnVBack
namespace Go.Proofs.YtodlhaghdplclaaGreatDoor
/-- The row, under a short name, for the claim. -/
theorem fnVBack_holds : Rows.FnVBackSaid := fnVBack.proved
/-- The tied card. -/
theorem fnVBack_card : Rows.FnVBackCardSaid :=
  Claim7.holds_tied_plain_at .later [] [.sentinel, .sentinel, .sentinel, .sentinel, .sentinel] true (true, "9b9981c4493ddaea8d3034c4c37eb073add2996763aee44d9c96a0ef4e317c2c") true
    fnVBack.over (fun _ h => by cases h) (by kernel_rfl) (fun _ h => by cases h) fnVBack_row_tie rfl ⟨rfl, rfl⟩ (by kernel_rfl) rfl
    (fun f fn hf hfn => by
      obtain rfl : f = 5 := Option.some.inj ((show Tryz.prog.funcNamed "given.example/pub-tinwright/laws.FnVBack" = some 5 by kernel_rfl).symm.trans hf) |>.symm
      obtain rfl : fn = Tryz.f5 := (Option.some.inj (Tryz.func5.symm.trans hfn)).symm
      exact ⟨by kernel_rfl, fun j t ht => by
        rw [Tryz.params5] at ht
        have hm : t ∈ (#[30, 28] : Array TypeId) := Array.mem_of_getElem? ht
        simp only [List.mem_toArray, List.mem_cons, List.not_mem_nil, or_false] at hm
        rcases hm with rfl | rfl
        · exact (show Tryz.prog.wantsStandIn 30 = false by kernel_rfl)
        · exact (show Tryz.prog.wantsStandIn 28 = false by kernel_rfl)⟩)
    (by kernel_rfl)
#print axioms fnVBack_card
end Go.Proofs.YtodlhaghdplclaaGreatDoor
