/- The law FnVSpoilt holds: for every input that can be read the call returns true and leaves its arguments as they were. -/
import Derived.Test.YtodlhaghdplclaaGreatDoorRows
import Derived.Test.YtodlhaghdplclaaGreatDoorQ5
import Derived.Test.YtodlhaghdplclaaGreatDoorQ2
import Derived.Test.YtodlhaghdplclaaGreatDoorQ0
import Derived.WalkKit
import Derived.ProofKit
import Derived.OpenShut
import Derived.ShutString
import Derived.ChangeOld
import Derived.Below
import Derived.SizedLaws
import Derived.Lay
import Derived.LaidMore
import Derived.LaidHandle
import Derived.Stop.Joined
import Derived.MakeChecks
import Derived.SevenTiedAt
import Derived.Test.YtodlhaghdplclaaGreatDoorCards
import Derived.Test.YtodlhaghdplclaaGreatDoorTie
namespace Go.Proofs.YtodlhaghdplclaaGreatDoor.fnVSpoilt
open Go.ChangeShapes Go.WideShapes Go.ChangeAt Go.RowKit
open Go.ChangeMaps (open_string shut_string)
open Go.Proofs.YtodlhaghdplclaaGreatDoor Go.Proofs.YtodlhaghdplclaaGreatDoor.V 
set_option linter.unusedVariables false
theorem own : ownKnob Tryz.prog.godebug = none := by kernel_rfl
theorem laidOut : laidOutB Tryz.prog = true := by kernel_rfl
set_option maxRecDepth 100000 in
theorem lifted (os : Os) (started : os.Started) (H : Type) (enc : TypeId × Value → H) :
    ReturnsInHanded {} Tryz.checked os 7 .any (fun w args => (Rows.fnVSpoiltSpec.pre enc Tryz.prog Tryz.f7 Rows.fnVSpoiltRow.domain false w args ∧ laidMetH Tryz.prog Rows.fnVSpoiltRow.laid w) ∧ sizedMet enc Tryz.prog Tryz.f7 (OpenSpec.ofChange Rows.fnVSpoiltSpec) false w args)
      (Rows.fnVSpoiltSpec.post enc Tryz.prog Tryz.f7 false true false false) := by
  refine returnsInHanded_of_change_and (C := Tryz.checked) (X := fun w _ => laidMetH Tryz.prog Rows.fnVSpoiltRow.laid w) (fun _ _ _ hh h => h.of_heap hh) own started (by kernel_rfl) Tryz.func7
    (ChangeSpec.witness_shaped (enc := enc) (C := Tryz.checked) (os := os) (X := fun w _ => laidMetH Tryz.prog Rows.fnVSpoiltRow.laid w) false (World.laidAll Tryz.prog os Rows.fnVSpoiltRow.laid) #[(.agg #[(.slice none 0 0), (.slice none 0 0)]), .int .i64 0, .int .u8 0] 8 (World.laidAll_os _ _ _)
      (World.shaped_of_ZipB (by kernel_rfl) (by kernel_rfl)) (by kernel_rfl) (by kernel_rfl) (by kernel_rfl)
      (by rw [Go.MakeChecks.laidMetH_plain _ _ _ (by kernel_rfl)]; exact laidMet_laidAll _ (by kernel_rfl) (by kernel_rfl))) ?_
  intro W base args ds gs before hval0 hW hcnd hsz0 hL _
  have hsz : (DataW.weightsEach Tryz.prog (Tryz.f7.params.toList ++ Rows.fnVSpoiltSpec.plain.varTypes Tryz.prog) (ds ++ gs)).all (· ≤ reachBytes) = true := hsz0
  have hval : ∀ (j : Nat) t v, Tryz.f7.params[j]? = some t → args[j]? = some v → Value.okWide Tryz.prog W .any base t v := hval0
  have hW' := hW
  obtain ⟨p, q, hA0, hV, rfl, hfz, hnd⟩ := hW
  have hA : DataW.TrodAll enc Tryz.prog W 0 (fun _ => true) true Tryz.f7.params.toList args.toList ds p := hA0
  rw [Tryz.params7] at hA hval hsz
  obtain ⟨v0, vs0, d0, ds0, p0, q0, hargs, rfl, rfl, h0, r0⟩ := trodAll_cons hA
  obtain ⟨v1, vs1, d1, ds1, p1, q1, rfl, rfl, rfl, h1, r1⟩ := trodAll_cons r0
  obtain ⟨v2, vs2, d2, ds2, p2, q2, rfl, rfl, rfl, h2, r2⟩ := trodAll_cons r1
  obtain ⟨rfl, rfl, rfl⟩ := trodAll_nil r2
  obtain rfl : args = #[v0, v1, v2] := by cases args; simp_all
  obtain ⟨rfl, rfl⟩ := trodVars_none hV
  have k0 := h0
  have lt0 : ∀ x ∈ p0, x.block < W.heap.size := by obtain ⟨m, hm⟩ := k0; exact DataW.trod_lt m _ _ _ hm
  obtain ⟨x0, A0, rfl, has0, rd0⟩ := ET.arg_msg (hval 0 30 v0 rfl rfl) h0
  obtain ⟨a1, rfl, rfl, rfl, w1⟩ := open_int Tryz.underlying3 (hval 1 3 v1 rfl rfl) h1
  have b1 := wf_bounds w1
  obtain ⟨a2, rfl, rfl, rfl, w2⟩ := open_int Tryz.underlying5 (hval 2 5 v2 rfl rfl) h2
  have b2 := wf_bounds w2
  clear hA0 hval0 hsz0 hsz
  obtain ⟨G, pE, pU, hasG, sn0⟩ := DN.sn_laid (show laidMetH Tryz.prog Rows.fnVBackRow.laid W from hL)
  obtain ⟨C, hasC, in0, inG⟩ := has_all2 has0 hasG
  have rd0 := rd0.weaken in0
  have hS := sn0.weaken inG
  refine (DO.lawSpoilt C x0.vh x0.l rd0.rd rd0.int x0.pp x0.pc x0.data rd0.rdp a1 a2 (by have := b2; rw [u8_lo, u8_hi] at this; exact this) _ pE pU hS W hasC).mono fun e W' ⟨he, hst⟩ => ?_
  have bel := St.belowR hasC hst
  subst he
  exact ⟨_, rfl, _, _, _, [], _, [], hW', trodAll_mk1 (shut_bool Tryz.underlying4 _), (trodAll_cons_mk (Below.trod laidOut (by kernel_rfl) (of_decide_eq_true (by kernel_rfl)) k0 bel lt0) (trodAll_cons_mk (shut_int Tryz.underlying3 w1) (trodAll_cons_mk (shut_int Tryz.underlying5 w2) trodAll_mk0))), rfl, bel.frame _, fun h => by cases h⟩
theorem over : Rows.fnVSpoiltRow.holds Tryz.pinned (OpenSpec.ofChange Rows.fnVSpoiltSpec) :=
  OpenClaim.holds_of_wide 7 Tryz.f7 rfl rfl rfl rfl rfl rfl rfl ⟨rfl, rfl, rfl, rfl, rfl⟩ rfl rfl rfl rfl rfl (by kernel_rfl) Tryz.func7 (by kernel_rfl)
    (of_decide_eq_true (by kernel_rfl)) (by unfold Func.isWrapper; first | (rw [if_pos (by decide +kernel)]; kernel_rfl) | (rw [if_neg (by decide +kernel)]; exact ⟨rfl, rfl⟩))
    (fun os started H enc _ => lifted os started H enc)
theorem proved : Rows.FnVSpoiltSaid := over
#print axioms proved
end Go.Proofs.YtodlhaghdplclaaGreatDoor.fnVSpoilt
namespace Go.Proofs.YtodlhaghdplclaaGreatDoor
/-- The row, under a short name, for the claim. -/
theorem fnVSpoilt_holds : Rows.FnVSpoiltSaid := fnVSpoilt.proved
/-- The tied card. -/
theorem fnVSpoilt_card : Rows.FnVSpoiltCardSaid :=
  Claim7.holds_tied_plain_at .later [] [.sentinel, .sentinel, .sentinel, .sentinel, .sentinel] true (true, "9b9981c4493ddaea8d3034c4c37eb073add2996763aee44d9c96a0ef4e317c2c") true
    fnVSpoilt.over (fun _ h => by cases h) (by kernel_rfl) (fun _ h => by cases h) fnVSpoilt_row_tie rfl ⟨rfl, rfl⟩ (by kernel_rfl) rfl
    (fun f fn hf hfn => by
      obtain rfl : f = 7 := Option.some.inj ((show Tryz.prog.funcNamed "given.example/pub-tinwright/laws.FnVSpoilt" = some 7 by kernel_rfl).symm.trans hf) |>.symm
      obtain rfl : fn = Tryz.f7 := (Option.some.inj (Tryz.func7.symm.trans hfn)).symm
      exact ⟨by kernel_rfl, fun j t ht => by
        rw [Tryz.params7] at ht
        have hm : t ∈ (#[30, 3, 5] : Array TypeId) := Array.mem_of_getElem? ht
        simp only [List.mem_toArray, List.mem_cons, List.not_mem_nil, or_false] at hm
        rcases hm with rfl | rfl | rfl
        · exact (show Tryz.prog.wantsStandIn 30 = false by kernel_rfl)
        · exact (show Tryz.prog.wantsStandIn 3 = false by kernel_rfl)
        · exact (show Tryz.prog.wantsStandIn 5 = false by kernel_rfl)⟩)
    (by kernel_rfl)
#print axioms fnVSpoilt_card
end Go.Proofs.YtodlhaghdplclaaGreatDoor
