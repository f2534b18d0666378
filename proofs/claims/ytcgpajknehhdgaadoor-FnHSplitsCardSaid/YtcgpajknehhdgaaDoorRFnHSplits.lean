/- The law FnHSplits holds: for every input that can be read the call returns true and leaves its arguments as they were. -/
import Derived.Test.YtcgpajknehhdgaaDoorRows
import Derived.Test.YtcgpajknehhdgaaDoorM0
import Derived.Test.YtcgpajknehhdgaaDoorVJ
import Derived.Test.YtcgpajknehhdgaaDoorV5
import Derived.WalkKit
import Derived.ProofKit
import Derived.OpenShut
import Derived.ShutString
import Derived.ChangeOld
import Derived.Below
import Derived.SizedLaws
import Derived.Lay
import Derived.LaidMore
import Derived.LaidHandle
import Derived.Stop.Joined
import Derived.MakeChecks
import Derived.SevenTiedAt
import Derived.Test.YtcgpajknehhdgaaDoorCards
import Derived.Test.YtcgpajknehhdgaaDoorTie
namespace Go.Proofs.YtcgpajknehhdgaaDoor.fnHSplits
open Go.ChangeShapes Go.WideShapes Go.ChangeAt Go.RowKit
open Go.ChangeMaps (open_string shut_string)
open Go.Proofs.YtcgpajknehhdgaaDoor Go.Proofs.YtcgpajknehhdgaaDoor.V 
set_option linter.unusedVariables false
theorem own : ownKnob Tryd.prog.godebug = none := by kernel_rfl
theorem laidOut : laidOutB Tryd.prog = true := by kernel_rfl
set_option maxRecDepth 100000 in
theorem lifted (os : Os) (started : os.Started) (H : Type) (enc : TypeId × Value → H) :
    ReturnsInHanded {} Tryd.checked os 7 .any (fun w args => (Rows.fnHSplitsSpec.pre enc Tryd.prog Tryd.f7 Rows.fnHSplitsRow.domain false w args ∧ laidMetH Tryd.prog Rows.fnHSplitsRow.laid w) ∧ sizedMet enc Tryd.prog Tryd.f7 (OpenSpec.ofChange Rows.fnHSplitsSpec) false w args)
      (Rows.fnHSplitsSpec.post enc Tryd.prog Tryd.f7 false true false false) := by
  refine returnsInHanded_of_change_and (C := Tryd.checked) (X := fun w _ => laidMetH Tryd.prog Rows.fnHSplitsRow.laid w) (fun _ _ _ hh h => h.of_heap hh) own started (by kernel_rfl) Tryd.func7
    (ChangeSpec.witness_shaped (enc := enc) (C := Tryd.checked) (os := os) (X := fun w _ => laidMetH Tryd.prog Rows.fnHSplitsRow.laid w) false (World.laidAll Tryd.prog os Rows.fnHSplitsRow.laid) #[.slice none 0 0] 8 (World.laidAll_os _ _ _)
      (World.shaped_of_ZipB (by kernel_rfl) (by kernel_rfl)) (by kernel_rfl) (by kernel_rfl) (by kernel_rfl)
      (by rw [Go.MakeChecks.laidMetH_plain _ _ _ (by kernel_rfl)]; exact laidMet_laidAll _ (by kernel_rfl) (by kernel_rfl))) ?_
  intro W base args ds gs before hval0 hW hcnd hsz0 hL _
  have hsz : (DataW.weightsEach Tryd.prog (Tryd.f7.params.toList ++ Rows.fnHSplitsSpec.plain.varTypes Tryd.prog) (ds ++ gs)).all (· ≤ reachBytes) = true := hsz0
  have hval : ∀ (j : Nat) t v, Tryd.f7.params[j]? = some t → args[j]? = some v → Value.okWide Tryd.prog W .any base t v := hval0
  have hW' := hW
  obtain ⟨p, q, hA0, hV, rfl, hfz, hnd⟩ := hW
  have hA : DataW.TrodAll enc Tryd.prog W 0 (fun _ => true) true Tryd.f7.params.toList args.toList ds p := hA0
  rw [Tryd.params7] at hA hval hsz
  obtain ⟨v0, vs0, d0, ds0, p0, q0, hargs, rfl, rfl, h0, r0⟩ := trodAll_cons hA
  obtain ⟨rfl, rfl, rfl⟩ := trodAll_nil r0
  obtain rfl : args = #[v0] := by cases args; simp_all
  obtain ⟨rfl, rfl⟩ := trodVars_none hV
  have k0 := h0
  have lt0 : ∀ x ∈ p0, x.block < W.heap.size := by obtain ⟨m, hm⟩ := k0; exact DataW.trod_lt m _ _ _ hm
  obtain ⟨l0, A0, has0, rd0, len0⟩ := arg_strs Tryd.underlying36 Tryd.underlying9 (by kernel_rfl) (hval 0 36 v0 rfl rfl) h0
  clear hA0 hval0 hsz0 hsz
  obtain ⟨G, hasG⟩ := (⟨[], Has.nil W⟩ : ∃ G : Hp, Has G W)
  obtain ⟨C, hasC, in0, inG⟩ := has_all2 has0 hasG
  have rd0 := rd0.weaken in0
  refine (M0.law _ C l0 rd0 W hasC).mono fun e W' ⟨he, hst⟩ => ?_
  have bel := St.belowR hasC hst
  subst he
  exact ⟨_, rfl, _, _, _, [], _, [], hW', trodAll_mk1 (shut_bool Tryd.underlying4 _), (trodAll_cons_mk (Below.trod laidOut (by kernel_rfl) (of_decide_eq_true (by kernel_rfl)) k0 bel lt0) trodAll_mk0), rfl, bel.frame _, fun h => by cases h⟩
theorem over : Rows.fnHSplitsRow.holds Tryd.pinned (OpenSpec.ofChange Rows.fnHSplitsSpec) :=
  OpenClaim.holds_of_wide 7 Tryd.f7 rfl rfl rfl rfl rfl rfl rfl ⟨rfl, rfl, rfl, rfl, rfl⟩ rfl rfl rfl rfl rfl (by kernel_rfl) Tryd.func7 (by kernel_rfl)
    (of_decide_eq_true (by kernel_rfl)) (by unfold Func.isWrapper; first | (rw [if_pos (by decide +kernel)]; kernel_rfl) | (rw [if_neg (by decide +kernel)]; exact ⟨rfl, rfl⟩))
    (fun os started H enc _ => lifted os started H enc)
theorem proved : Rows.FnHSplitsSaid := over
#print axioms proved
end Go.Proofs.YtcgpajknehhdgaaDoor.fnHSplits
namespace Go.Proofs.YtcgpajknehhdgaaDoor
/-- The row, under a short name, for the claim. -/
theorem fnHSplits_holds : Rows.FnHSplitsSaid := fnHSplits.proved
/-- The tied card. -/
theorem fnHSplits_card : Rows.FnHSplitsCardSaid :=
  Claim7.holds_tied_plain_at .later [] [.data, .sentinel, .pinned] true (true, "53580b00d0226272c5b7c91e4dbf55b12e70c023e28901d0acd9f2dfb3ff7fe2") true
    fnHSplits.over (fun _ h => by cases h) (by kernel_rfl) (fun _ h => by cases h) fnHSplits_row_tie rfl ⟨rfl, rfl⟩ (by kernel_rfl) rfl
    (fun f fn hf hfn => by
      obtain rfl : f = 7 := Option.some.inj ((show Tryd.prog.funcNamed "given.example/pub-tinwright/laws.FnHSplits" = some 7 by kernel_rfl).symm.trans hf) |>.symm
      obtain rfl : fn = Tryd.f7 := (Option.some.inj (Tryd.func7.symm.trans hfn)).symm
      exact ⟨by kernel_rfl, fun j t ht => by
        rw [Tryd.params7] at ht
        have hm : t ∈ (#[36] : Array TypeId) := Array.mem_of_getElem? ht
        simp only [List.mem_toArray, List.mem_cons, List.not_mem_nil, or_false] at hm
        rcases hm with rfl
        · exact (show Tryd.prog.wantsStandIn 36 = false by kernel_rfl)⟩)
    (by kernel_rfl)
#print axioms fnHSplits_card
end Go.Proofs.YtcgpajknehhdgaaDoor
