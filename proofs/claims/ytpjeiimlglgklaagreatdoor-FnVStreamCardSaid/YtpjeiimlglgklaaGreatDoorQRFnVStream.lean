/- The law FnVStream holds: for every input that can be read the call returns true and leaves its arguments as they were. -/
import Derived.Test.YtpjeiimlglgklaaGreatDoorRows
import Derived.Test.YtpjeiimlglgklaaGreatDoorQ6
import Derived.Test.YtpjeiimlglgklaaGreatDoorQ5
import Derived.Test.YtpjeiimlglgklaaGreatDoorQ2
import Derived.Test.YtpjeiimlglgklaaGreatDoorQ0
import Derived.WalkKit
import Derived.ProofKit
import Derived.OpenShut
import Derived.ShutString
import Derived.ChangeOld
import Derived.Below
import Derived.SizedLaws
import Derived.Lay
import Derived.LaidMore
import Derived.LaidHandle
import Derived.Stop.Joined
import Derived.MakeChecks
import Derived.SevenTiedAt
import Derived.Test.YtpjeiimlglgklaaGreatDoorCards
import Derived.Test.YtpjeiimlglgklaaGreatDoorTie
namespace Go.Proofs.YtpjeiimlglgklaaGreatDoor.fnVStream
open Go.ChangeShapes Go.WideShapes Go.ChangeAt Go.RowKit
open Go.ChangeMaps (open_string shut_string)
open Go.Proofs.YtpjeiimlglgklaaGreatDoor Go.Proofs.YtpjeiimlglgklaaGreatDoor.V 
set_option linter.unusedVariables false
theorem own : ownKnob Tryz.prog.godebug = none := by kernel_rfl
theorem laidOut : laidOutB Tryz.prog = true := by kernel_rfl
set_option maxRecDepth 100000 in
theorem lifted (os : Os) (started : os.Started) (H : Type) (enc : TypeId × Value → H) :
    ReturnsInHanded {} Tryz.checked os 3 .any (fun w args => (Rows.fnVStreamSpec.pre enc Tryz.prog Tryz.f3 Rows.fnVStreamRow.domain false w args ∧ laidMetH Tryz.prog Rows.fnVStreamRow.laid w) ∧ sizedMet enc Tryz.prog Tryz.f3 (OpenSpec.ofChange Rows.fnVStreamSpec) false w args)
      (Rows.fnVStreamSpec.post enc Tryz.prog Tryz.f3 false true false false) := by
  refine returnsInHanded_of_change_and (C := Tryz.checked) (X := fun w _ => laidMetH Tryz.prog Rows.fnVStreamRow.laid w) (fun _ _ _ hh h => h.of_heap hh) own started (by kernel_rfl) Tryz.func3
    (ChangeSpec.witness_shaped (enc := enc) (C := Tryz.checked) (os := os) (X := fun w _ => laidMetH Tryz.prog Rows.fnVStreamRow.laid w) false (World.laidAll Tryz.prog os Rows.fnVStreamRow.laid) #[.slice none 0 0] 8 (World.laidAll_os _ _ _)
      (World.shaped_of_ZipB (by kernel_rfl) (by kernel_rfl)) (by kernel_rfl) (by kernel_rfl) (by kernel_rfl)
      (by rw [Go.MakeChecks.laidMetH_plain _ _ _ (by kernel_rfl)]; exact laidMet_laidAll _ (by kernel_rfl) (by kernel_rfl))) ?_
  intro W base args ds gs before hval0 hW hcnd hsz0 hL _
  have hsz : (DataW.weightsEach Tryz.prog (Tryz.f3.params.toList ++ Rows.fnVStreamSpec.plain.varTypes Tryz.prog) (ds ++ gs)).all (· ≤ reachBytes) = true := hsz0
  have hval : ∀ (j : Nat) t v, Tryz.f3.params[j]? = some t → args[j]? = some v → Value.okWide Tryz.prog W .any base t v := hval0
  have hW' := hW
  obtain ⟨p, q, hA0, hV, rfl, hfz, hnd⟩ := hW
  have hA : DataW.TrodAll enc Tryz.prog W 0 (fun _ => true) true Tryz.f3.params.toList args.toList ds p := hA0
  rw [Tryz.params3] at hA hval hsz
  obtain ⟨v0, vs0, d0, ds0, p0, q0, hargs, rfl, rfl, h0, r0⟩ := trodAll_cons hA
  obtain ⟨rfl, rfl, rfl⟩ := trodAll_nil r0
  obtain rfl : args = #[v0] := by cases args; simp_all
  obtain ⟨rfl, rfl⟩ := trodVars_none hV
  have k0 := h0
  have lt0 : ∀ x ∈ p0, x.block < W.heap.size := by obtain ⟨m, hm⟩ := k0; exact DataW.trod_lt m _ _ _ hm
  obtain ⟨x0, A0, has0, rd0⟩ := FG.arg_ms (hval 0 22 v0 rfl rfl) h0
  clear hA0 hval0 hsz0 hsz
  obtain ⟨G, pE, pU, hasG, sn0⟩ := DN.sn_laid (show laidMetH Tryz.prog Rows.fnVStreamRow.laid W from hL)
  obtain ⟨C, hasC, in0, inG⟩ := has_all2 has0 hasG
  have rd0 := rd0.weaken in0
  have hS := sn0.weaken inG
  refine (FF.lawStream _ C x0 rd0.rd rd0.ins _ pE pU hS W hasC).mono fun e W' ⟨he, hst⟩ => ?_
  have bel := St.belowR hasC hst
  subst he
  exact ⟨_, rfl, _, _, _, [], _, [], hW', trodAll_mk1 (shut_bool Tryz.underlying4 _), (trodAll_cons_mk (Below.trod laidOut (by kernel_rfl) (of_decide_eq_true (by kernel_rfl)) k0 bel lt0) trodAll_mk0), rfl, bel.frame _, fun h => by cases h⟩
theorem over : Rows.fnVStreamRow.holds Tryz.pinned (OpenSpec.ofChange Rows.fnVStreamSpec) :=
  OpenClaim.holds_of_wide 3 Tryz.f3 rfl rfl rfl rfl rfl rfl rfl ⟨rfl, rfl, rfl, rfl, rfl⟩ rfl rfl rfl rfl rfl (by kernel_rfl) Tryz.func3 (by kernel_rfl)
    (of_decide_eq_true (by kernel_rfl)) (by unfold Func.isWrapper; first | (rw [if_pos (by decide +kernel)]; kernel_rfl) | (rw [if_neg (by decide +kernel)]; exact ⟨rfl, rfl⟩))
    (fun os started H enc _ => lifted os started H enc)
theorem proved : Rows.FnVStreamSaid := over
#print axioms proved
end Go.Proofs.YtpjeiimlglgklaaGreatDoor.fnVStream
namespace Go.Proofs.YtpjeiimlglgklaaGreatDoor
/-- The row, under a short name, for the claim. -/
theorem fnVStream_holds : Rows.FnVStreamSaid := fnVStream.proved
/-- The tied card. -/
theorem fnVStream_card : Rows.FnVStreamCardSaid :=
  Claim7.holds_tied_plain_at .later [] [.sentinel, .sentinel, .sentinel, .sentinel, .sentinel] true (true, "3264fa399e4c39b554ab37cc0fcf4762410e5a167a908a5f80a2205c66968f5d") true
    fnVStream.over (fun _ h => by cases h) (by kernel_rfl) (fun _ h => by cases h) fnVStream_row_tie rfl ⟨rfl, rfl⟩ (by kernel_rfl) rfl
    (fun f fn hf hfn => by
      obtain rfl : f = 3 := Option.some.inj ((show Tryz.prog.funcNamed "given.example/pub-tinwright/laws.FnVStream" = some 3 by kernel_rfl).symm.trans hf) |>.symm
      obtain rfl : fn = Tryz.f3 := (Option.some.inj (Tryz.func3.symm.trans hfn)).symm
      exact ⟨by kernel_rfl, fun j t ht => by
        rw [Tryz.params3] at ht
        have hm : t ∈ (#[22] : Array TypeId) := Array.mem_of_getElem? ht
        simp only [List.mem_toArray, List.mem_cons, List.not_mem_nil, or_false] at hm
        rcases hm with rfl
        · exact (show Tryz.prog.wantsStandIn 22 = false by kernel_rfl)⟩)
    (by kernel_rfl)
#print axioms fnVStream_card
end Go.Proofs.YtpjeiimlglgklaaGreatDoor
