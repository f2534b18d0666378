/- The law FnVSets holds: for every input that can be read the call returns true and leaves its arguments as they were. -/
import Derived.Test.YtodlhaghdplclaaGreatDoorRows
import Derived.Test.YtodlhaghdplclaaGreatDoorQ4
import Derived.Test.YtodlhaghdplclaaGreatDoorQ3
import Derived.Test.YtodlhaghdplclaaGreatDoorQ0
import Derived.Lay
import Derived.WalkKit
import Derived.ProofKit
import Derived.OpenShut
import Derived.ShutString
import Derived.ChangeOld
import Derived.Below
import Derived.SizedLaws
import Derived.LaidMore
import Derived.LaidHandle
import Derived.Stop.Joined
import Derived.MakeChecks
import Derived.SevenTiedAt
import Derived.Test.YtodlhaghdplclaaGreatDoorCards
import Derived.Test.YtodlhaghdplclaaGreatDoorTie
namespace Go.Proofs.YtodlhaghdplclaaGreatDoor.fnVSets
open Go.ChangeShapes Go.WideShapes Go.ChangeAt Go.RowKit
open Go.ChangeMaps (open_string shut_string)
open Go.Proofs.YtodlhaghdplclaaGreatDoor Go.Proofs.YtodlhaghdplclaaGreatDoor.V 
set_option linter.unusedVariables false
theorem own : ownKnob Tryz.prog.godebug = none := by kernel_rfl
theorem laidOut : laidOutB Tryz.prog = true := by kernel_rfl
set_option maxRecDepth 100000 in
theorem lifted (os : Os) (started : os.Started) (H : Type) (enc : TypeId × Value → H) :
    ReturnsInHanded {} Tryz.checked os 3 .any (fun w args => (Rows.fnVSetsSpec.pre enc Tryz.prog Tryz.f3 Rows.fnVSetsRow.domain false w args ∧ laidMetH Tryz.prog Rows.fnVSetsRow.laid w) ∧ sizedMet enc Tryz.prog Tryz.f3 (OpenSpec.ofChange Rows.fnVSetsSpec) false w args)
      (Rows.fnVSetsSpec.post enc Tryz.prog Tryz.f3 false true false false) := by
  refine returnsInHanded_of_change_and (C := Tryz.checked) (X := fun w _ => laidMetH Tryz.prog Rows.fnVSetsRow.laid w) (fun _ _ _ hh h => h.of_heap hh) own started (by kernel_rfl) Tryz.func3
    (ChangeSpec.witness_shaped (enc := enc) (C := Tryz.checked) (os := os) (X := fun w _ => laidMetH Tryz.prog Rows.fnVSetsRow.laid w) false (World.laidAll Tryz.prog os Rows.fnVSetsRow.laid) #[.slice none 0 0, .string ByteArray.empty, (.agg #[(.int .i64 0), (.int .i64 0), (.int .i64 0), (S [])])] 8 (World.laidAll_os _ _ _)
      (World.shaped_of_ZipB (by kernel_rfl) (by kernel_rfl)) (by kernel_rfl) (by kernel_rfl) (by kernel_rfl)
      (by rw [Go.MakeChecks.laidMetH_plain _ _ _ (by kernel_rfl)]; exact laidMet_laidAll _ (by kernel_rfl) (by kernel_rfl))) ?_
  intro W base args ds gs before hval0 hW hcnd hsz0 hL _
  have hsz : (DataW.weightsEach Tryz.prog (Tryz.f3.params.toList ++ Rows.fnVSetsSpec.plain.varTypes Tryz.prog) (ds ++ gs)).all (· ≤ reachBytes) = true := hsz0
  have hval : ∀ (j : Nat) t v, Tryz.f3.params[j]? = some t → args[j]? = some v → Value.okWide Tryz.prog W .any base t v := hval0
  have hW' := hW
  obtain ⟨p, q, hA0, hV, rfl, hfz, hnd⟩ := hW
  have hA : DataW.TrodAll enc Tryz.prog W 0 (fun _ => true) true Tryz.f3.params.toList args.toList ds p := hA0
  rw [Tryz.params3] at hA hval hsz
  obtain ⟨v0, vs0, d0, ds0, p0, q0, hargs, rfl, rfl, h0, r0⟩ := trodAll_cons hA
  obtain ⟨v1, vs1, d1, ds1, p1, q1, rfl, rfl, rfl, h1, r1⟩ := trodAll_cons r0
  obtain ⟨v2, vs2, d2, ds2, p2, q2, rfl, rfl, rfl, h2, r2⟩ := trodAll_cons r1
  obtain ⟨rfl, rfl, rfl⟩ := trodAll_nil r2
  obtain rfl : args = #[v0, v1, v2] := by cases args; simp_all
  obtain ⟨rfl, rfl⟩ := trodVars_none hV
  have k0 := h0
  have lt0 : ∀ x ∈ p0, x.block < W.heap.size := by obtain ⟨m, hm⟩ := k0; exact DataW.trod_lt m _ _ _ hm
  obtain ⟨x0, A0, has0, rd0⟩ := DY.open_hs (hval 0 22 v0 rfl rfl) h0
  obtain ⟨a1, rfl, rfl, rfl, y1⟩ := open_string Tryz.underlying9 (hval 1 9 v1 rfl rfl) h1
  have w1 : a1.size ≤ 140737488351232 := by
    have z := sized_string hsz (j := 1) (t := 9) rfl rfl
    rw [Array.length_toList] at z
    exact z
  have y1k := y1
  obtain ⟨⟨l1⟩⟩ := a1
  replace w1 : l1.length ≤ 140737488351232 := w1
  have k2 := h2
  have lt2 : ∀ x ∈ p2, x.block < W.heap.size := by obtain ⟨m, hm⟩ := k2; exact DataW.trod_lt m _ _ _ hm
  obtain ⟨x2, rfl, rd2⟩ := ET.arg_val (hval 2 24 v2 rfl rfl) h2
  clear hA0 hval0 hsz0 hsz
  obtain ⟨G, hasG⟩ := (⟨[], Has.nil W⟩ : ∃ G : Hp, Has G W)
  obtain ⟨C, hasC, in0, inG⟩ := has_all2 has0 hasG
  have rd0 := rd0.weaken in0
  refine (DY.lawSetsV C _ x0 rd0.rd rd0.int ⟨l1, x2.kind, x2.width, x2.int, x2.text⟩ ⟨rd2.1.1, rd2.1.2, rd2.2.1.1, rd2.2.1.2⟩ W hasC).mono fun e W' ⟨he, hst⟩ => ?_
  have bel := St.belowR hasC hst
  subst he
  exact ⟨_, rfl, _, _, _, [], _, [], hW', trodAll_mk1 (shut_bool Tryz.underlying4 _), (trodAll_cons_mk (Below.trod laidOut (by kernel_rfl) (of_decide_eq_true (by kernel_rfl)) k0 bel lt0) (trodAll_cons_mk (shut_string Tryz.underlying9 y1k) (trodAll_cons_mk (Below.trod laidOut (by kernel_rfl) (of_decide_eq_true (by kernel_rfl)) k2 bel lt2) trodAll_mk0))), rfl, bel.frame _, fun h => by cases h⟩
theorem over : Rows.fnVSetsRow.holds Tryz.pinned (OpenSpec.ofChange Rows.fnVSetsSpec) :=
  OpenClaim.holds_of_wide 3 Tryz.f3 rfl rfl rfl rfl rfl rfl rfl ⟨rfl, rfl, rfl, rfl, rfl⟩ rfl rfl rfl rfl rfl (by kernel_rfl) Tryz.func3 (by kernel_rfl)
    (of_decide_eq_true (by kernel_rfl)) (by unfold Func.isWrapper; first | (rw [if_pos (by decide +kernel)]; kernel_rfl) | (rw [if_neg (by decide +kernel)]; exact ⟨rfl, rfl⟩))
    (fun os started H enc _ => lifted os started H enc)
theorem proved : Rows.FnVSetsSaid := over
#print axioms proved
end Go.Proofs.YtodlhaghdplclaaGreatDoor.fnVSets
namespace Go.Proofs.YtodlhaghdplclaaGreatDoor
/-- The row, under a short name, for the claim. -/
theorem fnVSets_holds : Rows.FnVSetsSaid := fnVSets.proved
/-- The tied card. -/
theorem fnVSets_card : Rows.FnVSetsCardSaid :=
  Claim7.holds_tied_plain_at .later [] [.sentinel, .sentinel, .sentinel] true (true, "9b9981c4493ddaea8d3034c4c37eb073add2996763aee44d9c96a0ef4e317c2c") true
    fnVSets.over (fun _ h => by cases h) (by kernel_rfl) (fun _ h => by cases h) fnVSets_row_tie rfl ⟨rfl, rfl⟩ (by kernel_rfl) rfl
    (fun f fn hf hfn => by
      obtain rfl : f = 3 := Option.some.inj ((show Tryz.prog.funcNamed "given.example/pub-tinwright/laws.FnVSets" = some 3 by kernel_rfl).symm.trans hf) |>.symm
      obtain rfl : fn = Tryz.f3 := (Option.some.inj (Tryz.func3.symm.trans hfn)).symm
      exact ⟨by kernel_rfl, fun j t ht => by
        rw [Tryz.params3] at ht
        have hm : t ∈ (#[22, 9, 24] : Array TypeId) := Array.mem_of_getElem? ht
        simp only [List.mem_toArray, List.mem_cons, List.not_mem_nil, or_false] at hm
        rcases hm with rfl | rfl | rfl
        · exact (show Tryz.prog.wantsStandIn 22 = false by kernel_rfl)
        · exact (show Tryz.prog.wantsStandIn 9 = false by kernel_rfl)
        · exact (show Tryz.prog.wantsStandIn 24 = false by kernel_rfl)⟩)
    (by kernel_rfl)
#print axioms fnVSets_card
end Go.Proofs.YtodlhaghdplclaaGreatDoor
