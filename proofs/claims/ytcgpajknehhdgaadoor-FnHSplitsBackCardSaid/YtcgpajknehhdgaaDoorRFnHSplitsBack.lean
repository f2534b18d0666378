/- The law FnHSplitsBack holds: for every input that can be read the call returns true and leaves its arguments as they were. -/
import Derived.Test.YtcgpajknehhdgaaDoorRows
import Derived.Test.YtcgpajknehhdgaaDoorM1
import Derived.Test.YtcgpajknehhdgaaDoorVJ
import Derived.Test.YtcgpajknehhdgaaDoorVG
import Derived.Test.YtcgpajknehhdgaaDoorV5
import Derived.WalkKit
import Derived.ProofKit
import Derived.OpenShut
import Derived.ShutString
import Derived.ChangeOld
import Derived.Below
import Derived.SizedLaws
import Derived.Lay
import Derived.LaidMore
import Derived.LaidHandle
import Derived.Stop.Joined
import Derived.MakeChecks
import Derived.SevenTiedAt
import Derived.Test.YtcgpajknehhdgaaDoorCards
import Derived.Test.YtcgpajknehhdgaaDoorTie
namespace Go.Proofs.YtcgpajknehhdgaaDoor.fnHSplitsBack
open Go.ChangeShapes Go.WideShapes Go.ChangeAt Go.RowKit
open Go.ChangeMaps (open_string shut_string)
open Go.Proofs.YtcgpajknehhdgaaDoor Go.Proofs.YtcgpajknehhdgaaDoor.V 
set_option linter.unusedVariables false
theorem own : ownKnob Tryd.prog.godebug = none := by kernel_rfl
theorem laidOut : laidOutB Tryd.prog = true := by kernel_rfl
set_option maxRecDepth 100000 in
theorem lifted (os : Os) (started : os.Started) (H : Type) (enc : TypeId × Value → H) :
    ReturnsInHanded {} Tryd.checked os 8 .any (fun w args => (Rows.fnHSplitsBackSpec.pre enc Tryd.prog Tryd.f8 Rows.fnHSplitsBackRow.domain false w args ∧ laidMetH Tryd.prog Rows.fnHSplitsBackRow.laid w) ∧ sizedMet enc Tryd.prog Tryd.f8 (OpenSpec.ofChange Rows.fnHSplitsBackSpec) false w args)
      (Rows.fnHSplitsBackSpec.post enc Tryd.prog Tryd.f8 false true false false) := by
  refine returnsInHanded_of_change_and (C := Tryd.checked) (X := fun w _ => laidMetH Tryd.prog Rows.fnHSplitsBackRow.laid w) (fun _ _ _ hh h => h.of_heap hh) own started (by kernel_rfl) Tryd.func8
    (ChangeSpec.witness_shaped (enc := enc) (C := Tryd.checked) (os := os) (X := fun w _ => laidMetH Tryd.prog Rows.fnHSplitsBackRow.laid w) false (World.laidAll Tryd.prog os Rows.fnHSplitsBackRow.laid) #[.slice none 0 0, .slice none 0 0] 8 (World.laidAll_os _ _ _)
      (World.shaped_of_ZipB (by kernel_rfl) (by kernel_rfl)) (by kernel_rfl) (by kernel_rfl) (by kernel_rfl)
      (by rw [Go.MakeChecks.laidMetH_plain _ _ _ (by kernel_rfl)]; exact laidMet_laidAll _ (by kernel_rfl) (by kernel_rfl))) ?_
  intro W base args ds gs before hval0 hW hcnd hsz0 hL _
  have hsz : (DataW.weightsEach Tryd.prog (Tryd.f8.params.toList ++ Rows.fnHSplitsBackSpec.plain.varTypes Tryd.prog) (ds ++ gs)).all (· ≤ reachBytes) = true := hsz0
  have hval : ∀ (j : Nat) t v, Tryd.f8.params[j]? = some t → args[j]? = some v → Value.okWide Tryd.prog W .any base t v := hval0
  have hW' := hW
  obtain ⟨p, q, hA0, hV, rfl, hfz, hnd⟩ := hW
  have hA : DataW.TrodAll enc Tryd.prog W 0 (fun _ => true) true Tryd.f8.params.toList args.toList ds p := hA0
  rw [Tryd.params8] at hA hval hsz
  obtain ⟨v0, vs0, d0, ds0, p0, q0, hargs, rfl, rfl, h0, r0⟩ := trodAll_cons hA
  obtain ⟨v1, vs1, d1, ds1, p1, q1, rfl, rfl, rfl, h1, r1⟩ := trodAll_cons r0
  obtain ⟨rfl, rfl, rfl⟩ := trodAll_nil r1
  obtain rfl : args = #[v0, v1] := by cases args; simp_all
  obtain ⟨rfl, rfl⟩ := trodVars_none hV
  have k0 := h0
  have lt0 : ∀ x ∈ p0, x.block < W.heap.size := by obtain ⟨m, hm⟩ := k0; exact DataW.trod_lt m _ _ _ hm
  obtain ⟨l0, A0, has0, rd0, len0⟩ := arg_strs Tryd.underlying36 Tryd.underlying9 (by kernel_rfl) (hval 0 36 v0 rfl rfl) h0
  have k1 := h1
  have lt1 : ∀ x ∈ p1, x.block < W.heap.size := by obtain ⟨m, hm⟩ := k1; exact DataW.trod_lt m _ _ _ hm
  obtain ⟨l1, A1, has1, rd1, len1⟩ := arg_bools Tryd.underlying47 Tryd.underlying4 (by kernel_rfl) (hval 1 47 v1 rfl rfl) h1
  clear hA0 hval0 hsz0 hsz
  obtain ⟨G, hasG⟩ := (⟨[], Has.nil W⟩ : ∃ G : Hp, Has G W)
  obtain ⟨C, hasC, in0, in1, inG⟩ := has_all3 has0 has1 hasG
  have rd0 := rd0.weaken in0
  have rd1 := rd1.weaken in1
  refine (M1.law _ _ C l0 l1 rd0 rd1 W hasC).mono fun e W' ⟨he, hst⟩ => ?_
  have bel := St.belowR hasC hst
  subst he
  exact ⟨_, rfl, _, _, _, [], _, [], hW', trodAll_mk1 (shut_bool Tryd.underlying4 _), (trodAll_cons_mk (Below.trod laidOut (by kernel_rfl) (of_decide_eq_true (by kernel_rfl)) k0 bel lt0) (trodAll_cons_mk (Below.trod laidOut (by kernel_rfl) (of_decide_eq_true (by kernel_rfl)) k1 bel lt1) trodAll_mk0)), rfl, bel.frame _, fun h => by cases h⟩
theorem over : Rows.fnHSplitsBackRow.holds Tryd.pinned (OpenSpec.ofChange Rows.fnHSplitsBackSpec) :=
  OpenClaim.holds_of_wide 8 Tryd.f8 rfl rfl rfl rfl rfl rfl rfl ⟨rfl, rfl, rfl, rfl, rfl⟩ rfl rfl rfl rfl rfl (by kernel_rfl) Tryd.func8 (by kernel_rfl)
    (of_decide_eq_true (by kernel_rfl)) (by unfold Func.isWrapper; first | (rw [if_pos (by decide +kernel)]; kernel_rfl) | (rw [if_neg (by decide +kernel)]; exact ⟨rfl, rfl⟩))
    (fun os started H enc _ => lifted os started H enc)
theorem proved : Rows.FnHSplitsBackSaid := over
#print axioms proved
end Go.Proofs.YtcgpajknehhdgaaDoor.fnHSplitsBack
namespace Go.Proofs.YtcgpajknehhdgaaDoor
/-- The row, under a short name, for the claim. -/
theorem fnHSplitsBack_holds : Rows.FnHSplitsBackSaid := fnHSplitsBack.proved
/-- The tied card. -/
theorem fnHSplitsBack_card : Rows.FnHSplitsBackCardSaid :=
  Claim7.holds_tied_plain_at .later [] [.data, .sentinel, .pinned] true (true, "53580b00d0226272c5b7c91e4dbf55b12e70c023e28901d0acd9f2dfb3ff7fe2") true
    fnHSplitsBack.over (fun _ h => by cases h) (by kernel_rfl) (fun _ h => by cases h) fnHSplitsBack_row_tie rfl ⟨rfl, rfl⟩ (by kernel_rfl) rfl
    (fun f fn hf hfn => by
      obtain rfl : f = 8 := Option.some.inj ((show Tryd.prog.funcNamed "given.example/pub-tinwright/laws.FnHSplitsBack" = some 8 by kernel_rfl).symm.trans hf) |>.symm
      obtain rfl : fn = Tryd.f8 := (Option.some.inj (Tryd.func8.symm.trans hfn)).symm
      exact ⟨by kernel_rfl, fun j t ht => by
        rw [Tryd.params8] at ht
        have hm : t ∈ (#[36, 47] : Array TypeId) := Array.mem_of_getElem? ht
        simp only [List.mem_toArray, List.mem_cons, List.not_mem_nil, or_false] at hm
        rcases hm with rfl | rfl
        · exact (show Tryd.prog.wantsStandIn 36 = false by kernel_rfl)
        · exact (show Tryd.prog.wantsStandIn 47 = false by kernel_rfl)⟩)
    (by kernel_rfl)
#print axioms fnHSplitsBack_card
end Go.Proofs.YtcgpajknehhdgaaDoor
