/- The law FnHTimes holds: for every input that can be read the call returns true and leaves its arguments as they were. -/
import Derived.Test.YtcfhfdengfcfpaaDoorRows
import Derived.Test.YtcfhfdengfcfpaaDoorQ7
import Derived.Test.YtcfhfdengfcfpaaDoorQ0
import Derived.WalkKit
import Derived.ProofKit
import Derived.OpenShut
import Derived.ShutString
import Derived.ChangeOld
import Derived.Below
import Derived.SizedLaws
import Derived.OpenVars
import Derived.Lay
import Derived.LaidMore
import Derived.LaidHandle
import Derived.Stop.Joined
import Derived.MakeChecks
import Derived.SevenTiedAt
import Derived.Test.YtcfhfdengfcfpaaDoorCards
import Derived.Test.YtcfhfdengfcfpaaDoorTie
namespace Go.Proofs.YtcfhfdengfcfpaaDoor.fnHTimes
open Go.ChangeShapes Go.WideShapes Go.ChangeAt Go.RowKit
open Go.ChangeMaps (open_string shut_string)
open Go.Proofs.YtcfhfdengfcfpaaDoor Go.Proofs.YtcfhfdengfcfpaaDoor.V 
set_option linter.unusedVariables false
theorem own : ownKnob Tryd.prog.godebug = none := by kernel_rfl
theorem trodVars_len {H : Type} {enc : TypeId × Value → H} {P : Program} {w : World} {sp : Nat → Bool} : ∀ {ns : List String} {gs : List (DataW H)} {ps : List MemPlace}, DataW.TrodVars enc P w sp ns gs ps → gs.length = ns.length
  | [], [], _, _ => rfl
  | [], _ :: _, _, h => h.elim
  | _ :: _, [], _, h => h.elim
  | _ :: _, _ :: _, _, h => by
    obtain ⟨_, _, _, _, _, _, _, _, _, _, h, _⟩ := h
    rw [List.length_cons, List.length_cons, trodVars_len h]
theorem vars_len6 {α : Type} : ∀ {l : List α}, l.length = 6 → ∃ g1 g2 g3 g4 g5 g6, l = [g1, g2, g3, g4, g5, g6]
  | [g1, g2, g3, g4, g5, g6], _ => ⟨g1, g2, g3, g4, g5, g6, rfl⟩
theorem laidOut : laidOutB Tryd.prog = true := by kernel_rfl
set_option maxRecDepth 100000 in
theorem lifted (os : Os) (started : os.Started) (H : Type) (enc : TypeId × Value → H) :
    ReturnsInHanded {} Tryd.checked os 3 .any (fun w args => (Rows.fnHTimesSpec.pre enc Tryd.prog Tryd.f3 Rows.fnHTimesRow.domain false w args ∧ laidMetH Tryd.prog Rows.fnHTimesRow.laid w) ∧ sizedMet enc Tryd.prog Tryd.f3 (OpenSpec.ofChange Rows.fnHTimesSpec) false w args)
      (Rows.fnHTimesSpec.post enc Tryd.prog Tryd.f3 false true false false) := by
  refine returnsInHanded_of_change_and (C := Tryd.checked) (X := fun w _ => laidMetH Tryd.prog Rows.fnHTimesRow.laid w) (fun _ _ _ hh h => h.of_heap hh) own started (by kernel_rfl) Tryd.func3
    (ChangeSpec.witness_shaped (enc := enc) (C := Tryd.checked) (os := os) (X := fun w _ => laidMetH Tryd.prog Rows.fnHTimesRow.laid w) false (World.laidAll Tryd.prog os Rows.fnHTimesRow.laid) #[.int .i64 0, .int .i64 0] 8 (World.laidAll_os _ _ _)
      (World.shaped_of_ZipB (by kernel_rfl) (by kernel_rfl)) (by kernel_rfl) (by kernel_rfl) (by kernel_rfl)
      (by rw [Go.MakeChecks.laidMetH_plain _ _ _ (by kernel_rfl)]; exact laidMet_laidAll _ (by kernel_rfl) (by kernel_rfl))) ?_
  intro W base args ds gs before hval0 hW hcnd hsz0 hL _
  have hsz : (DataW.weightsEach Tryd.prog (Tryd.f3.params.toList ++ Rows.fnHTimesSpec.plain.varTypes Tryd.prog) (ds ++ gs)).all (· ≤ reachBytes) = true := hsz0
  have hval : ∀ (j : Nat) t v, Tryd.f3.params[j]? = some t → args[j]? = some v → Value.okWide Tryd.prog W .any base t v := hval0
  have hW' := hW
  obtain ⟨p, q, hA0, hV, rfl, hfz, hnd⟩ := hW
  have hA : DataW.TrodAll enc Tryd.prog W 0 (fun _ => true) true Tryd.f3.params.toList args.toList ds p := hA0
  rw [Tryd.params3] at hA hval hsz
  obtain ⟨v0, vs0, d0, ds0, p0, q0, hargs, rfl, rfl, h0, r0⟩ := trodAll_cons hA
  obtain ⟨v1, vs1, d1, ds1, p1, q1, rfl, rfl, rfl, h1, r1⟩ := trodAll_cons r0
  obtain ⟨rfl, rfl, rfl⟩ := trodAll_nil r1
  obtain rfl : args = #[v0, v1] := by cases args; simp_all
  obtain ⟨g1, g2, g3, g4, g5, g6, rfl⟩ := vars_len6 (trodVars_len hV)
  obtain ⟨a0, rfl, rfl, rfl, w0⟩ := open_int Tryd.underlying2 (hval 0 2 v0 rfl rfl) h0
  have b0 := wf_bounds w0
  obtain ⟨a1, rfl, rfl, rfl, w1⟩ := open_int Tryd.underlying3 (hval 1 3 v1 rfl rfl) h1
  have b1 := wf_bounds w1
  clear hA0 hval0 hsz0 hsz
  obtain ⟨G, hasG, k0, u0, hb0⟩ := UL.times_laid (show laidMetH Tryd.prog Rows.fnHTimesRow.laid W from hL)
  obtain ⟨C, hasC, inG⟩ := has_all1 hasG
  have hB := hb0.weaken inG
  refine (U6.law C k0 u0 hB a0 a1 W hasC).mono fun e W' ⟨he, hst⟩ => ?_
  have bel := St.belowR hasC hst
  subst he
  exact ⟨_, rfl, _, _, _, [], _, _, hW', trodAll_mk1 (shut_bool Tryd.underlying4 _), (trodAll_cons_mk (shut_int Tryd.underlying2 w0) (trodAll_cons_mk (shut_int Tryd.underlying3 w1) trodAll_mk0)), (Below.trodVars laidOut bel (by kernel_rfl) hV), bel.frame _, fun h => by cases h⟩
theorem over : Rows.fnHTimesRow.holds Tryd.pinned (OpenSpec.ofChange Rows.fnHTimesSpec) :=
  OpenClaim.holds_of_wide 3 Tryd.f3 rfl rfl rfl rfl rfl rfl rfl ⟨rfl, rfl, rfl, rfl, rfl⟩ rfl rfl rfl rfl rfl (by kernel_rfl) Tryd.func3 (by kernel_rfl)
    (of_decide_eq_true (by kernel_rfl)) (by unfold Func.isWrapper; first | (rw [if_pos (by decide +kernel)]; kernel_rfl) | (rw [if_neg (by decide +kernel)]; exact ⟨rfl, rfl⟩))
    (fun os started H enc _ => lifted os started H enc)
theorem proved : Rows.FnHTimesSaid := over
#print axioms proved
end Go.Proofs.YtcfhfdengfcfpaaDoor.fnHTimes
namespace Go.Proofs.YtcfhfdengfcfpaaDoor
/-- The row, under a short name, for the claim. -/
theorem fnHTimes_holds : Rows.FnHTimesSaid := fnHTimes.proved
/-- The tied card. -/
theorem fnHTimes_card : Rows.FnHTimesCardSaid :=
  Claim7.holds_tied_plain_at .later [] [.sentinel, .sentinel, .sentinel, .data, .widerDeep, .widerDeep] true (true, "d43ef92e4d149c4c912570e3de5f9643c717535b808ee7a4b6cc36d14dfe64e6") false
    fnHTimes.over (fun _ h => by cases h) (by kernel_rfl) (fun _ h => by cases h) fnHTimes_row_tie rfl ⟨rfl, rfl⟩ (by kernel_rfl) rfl
    (fun f fn hf hfn => by
      obtain rfl : f = 3 := Option.some.inj ((show Tryd.prog.funcNamed "given.example/pub-tinwright/laws.FnHTimes" = some 3 by kernel_rfl).symm.trans hf) |>.symm
      obtain rfl : fn = Tryd.f3 := (Option.some.inj (Tryd.func3.symm.trans hfn)).symm
      exact ⟨by kernel_rfl, fun j t ht => by
        rw [Tryd.params3] at ht
        have hm : t ∈ (#[2, 3] : Array TypeId) := Array.mem_of_getElem? ht
        simp only [List.mem_toArray, List.mem_cons, List.not_mem_nil, or_false] at hm
        rcases hm with rfl | rfl
        · exact (show Tryd.prog.wantsStandIn 2 = false by kernel_rfl)
        · exact (show Tryd.prog.wantsStandIn 3 = false by kernel_rfl)⟩)
    (by kernel_rfl)
#print axioms fnHTimes_card
end Go.Proofs.YtcfhfdengfcfpaaDoor
