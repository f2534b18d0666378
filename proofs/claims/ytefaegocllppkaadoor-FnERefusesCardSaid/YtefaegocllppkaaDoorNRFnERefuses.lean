/- The law FnERefuses holds: for every input that can be read the call returns true and leaves its arguments as they were. -/
import Derived.Test.YtefaegocllppkaaDoorRows
import Derived.Test.YtefaegocllppkaaDoorN3
import Derived.Test.YtefaegocllppkaaDoorN0
import Derived.WalkKit
import Derived.ProofKit
import Derived.OpenShut
import Derived.ShutString
import Derived.ChangeOld
import Derived.Below
import Derived.SizedLaws
import Derived.OpenVars
import Derived.Lay
import Derived.LaidMore
import Derived.LaidHandle
import Derived.Stop.Joined
import Derived.MakeChecks
import Derived.SevenTiedAt
import Derived.Test.YtefaegocllppkaaDoorCards
import Derived.Test.YtefaegocllppkaaDoorTie
namespace Go.Proofs.YtefaegocllppkaaDoor.fnERefuses
open Go.ChangeShapes Go.WideShapes Go.ChangeAt Go.RowKit
open Go.ChangeMaps (open_string shut_string)
open Go.Proofs.YtefaegocllppkaaDoor Go.Proofs.YtefaegocllppkaaDoor.V 
set_option linter.unusedVariables false
theorem own : ownKnob Tryd.prog.godebug = none := by kernel_rfl
theorem trodVars_len {H : Type} {enc : TypeId × Value → H} {P : Program} {w : World} {sp : Nat → Bool} : ∀ {ns : List String} {gs : List (DataW H)} {ps : List MemPlace}, DataW.TrodVars enc P w sp ns gs ps → gs.length = ns.length
  | [], [], _, _ => rfl
  | [], _ :: _, _, h => h.elim
  | _ :: _, [], _, h => h.elim
  | _ :: _, _ :: _, _, h => by
    obtain ⟨_, _, _, _, _, _, _, _, _, _, h, _⟩ := h
    rw [List.length_cons, List.length_cons, trodVars_len h]
theorem vars_len1 {α : Type} : ∀ {l : List α}, l.length = 1 → ∃ g1, l = [g1]
  | [g1], _ => ⟨g1, rfl⟩
theorem laidOut : laidOutB Tryd.prog = true := by kernel_rfl
set_option maxRecDepth 100000 in
theorem lifted (os : Os) (started : os.Started) (H : Type) (enc : TypeId × Value → H) :
    ReturnsInHanded {} Tryd.checked os 4 .any (fun w args => (Rows.fnERefusesSpec.pre enc Tryd.prog Tryd.f4 Rows.fnERefusesRow.domain false w args ∧ laidMetH Tryd.prog Rows.fnERefusesRow.laid w) ∧ sizedMet enc Tryd.prog Tryd.f4 (OpenSpec.ofChange Rows.fnERefusesSpec) false w args)
      (Rows.fnERefusesSpec.post enc Tryd.prog Tryd.f4 false true false false) := by
  refine returnsInHanded_of_change_and (C := Tryd.checked) (X := fun w _ => laidMetH Tryd.prog Rows.fnERefusesRow.laid w) (fun _ _ _ hh h => h.of_heap hh) own started (by kernel_rfl) Tryd.func4
    (ChangeSpec.witness_shaped (enc := enc) (C := Tryd.checked) (os := os) (X := fun w _ => laidMetH Tryd.prog Rows.fnERefusesRow.laid w) false (World.laidAll Tryd.prog os Rows.fnERefusesRow.laid) #[.string ByteArray.empty, .string ByteArray.empty, .string ByteArray.empty] 8 (World.laidAll_os _ _ _)
      (World.shaped_of_ZipB (by kernel_rfl) (by kernel_rfl)) (by kernel_rfl) (by kernel_rfl) (by kernel_rfl)
      (by rw [Go.MakeChecks.laidMetH_plain _ _ _ (by kernel_rfl)]; exact laidMet_laidAll _ (by kernel_rfl) (by kernel_rfl))) ?_
  intro W base args ds gs before hval0 hW hcnd hsz0 hL _
  have hsz : (DataW.weightsEach Tryd.prog (Tryd.f4.params.toList ++ Rows.fnERefusesSpec.plain.varTypes Tryd.prog) (ds ++ gs)).all (· ≤ reachBytes) = true := hsz0
  have hval : ∀ (j : Nat) t v, Tryd.f4.params[j]? = some t → args[j]? = some v → Value.okWide Tryd.prog W .any base t v := hval0
  have hW' := hW
  obtain ⟨p, q, hA0, hV, rfl, hfz, hnd⟩ := hW
  have hA : DataW.TrodAll enc Tryd.prog W 0 (fun _ => true) true Tryd.f4.params.toList args.toList ds p := hA0
  rw [Tryd.params4] at hA hval hsz
  obtain ⟨v0, vs0, d0, ds0, p0, q0, hargs, rfl, rfl, h0, r0⟩ := trodAll_cons hA
  obtain ⟨v1, vs1, d1, ds1, p1, q1, rfl, rfl, rfl, h1, r1⟩ := trodAll_cons r0
  obtain ⟨v2, vs2, d2, ds2, p2, q2, rfl, rfl, rfl, h2, r2⟩ := trodAll_cons r1
  obtain ⟨rfl, rfl, rfl⟩ := trodAll_nil r2
  obtain rfl : args = #[v0, v1, v2] := by cases args; simp_all
  obtain ⟨g1, rfl⟩ := vars_len1 (trodVars_len hV)
  obtain ⟨a0, rfl, rfl, rfl, y0⟩ := open_string Tryd.underlying9 (hval 0 9 v0 rfl rfl) h0
  have w0 : a0.size ≤ 140737488351232 := by
    have z := sized_string hsz (j := 0) (t := 9) rfl rfl
    rw [Array.length_toList] at z
    exact z
  have y0k := y0
  obtain ⟨⟨l0⟩⟩ := a0
  replace w0 : l0.length ≤ 140737488351232 := w0
  obtain ⟨a1, rfl, rfl, rfl, y1⟩ := open_string Tryd.underlying9 (hval 1 9 v1 rfl rfl) h1
  have w1 : a1.size ≤ 140737488351232 := by
    have z := sized_string hsz (j := 1) (t := 9) rfl rfl
    rw [Array.length_toList] at z
    exact z
  have y1k := y1
  obtain ⟨⟨l1⟩⟩ := a1
  replace w1 : l1.length ≤ 140737488351232 := w1
  obtain ⟨a2, rfl, rfl, rfl, y2⟩ := open_string Tryd.underlying9 (hval 2 9 v2 rfl rfl) h2
  have w2 : a2.size ≤ 140737488351232 := by
    have z := sized_string hsz (j := 2) (t := 9) rfl rfl
    rw [Array.length_toList] at z
    exact z
  have y2k := y2
  obtain ⟨⟨l2⟩⟩ := a2
  replace w2 : l2.length ≤ 140737488351232 := w2
  clear hA0 hval0 hsz0 hsz
  obtain ⟨G, hasG, hb0⟩ := ML.eparse_laid (show laidMetH Tryd.prog Rows.fnEParsesRow.laid W from hL)
  obtain ⟨C, hasC, inG⟩ := has_all1 hasG
  have hB := ML.weaken hb0 inG
  refine (MD.lawRefuse C hB l0 l1 l2 W hasC).mono fun e W' ⟨he, hst⟩ => ?_
  have bel := St.belowR hasC hst
  subst he
  exact ⟨_, rfl, _, _, _, [], _, _, hW', trodAll_mk1 (shut_bool Tryd.underlying4 _), (trodAll_cons_mk (shut_string Tryd.underlying9 y0k) (trodAll_cons_mk (shut_string Tryd.underlying9 y1k) (trodAll_cons_mk (shut_string Tryd.underlying9 y2k) trodAll_mk0))), (Below.trodVars laidOut bel (by kernel_rfl) hV), bel.frame _, fun h => by cases h⟩
theorem over : Rows.fnERefusesRow.holds Tryd.pinned (OpenSpec.ofChange Rows.fnERefusesSpec) :=
  OpenClaim.holds_of_wide 4 Tryd.f4 rfl rfl rfl rfl rfl rfl rfl ⟨rfl, rfl, rfl, rfl, rfl⟩ rfl rfl rfl rfl rfl (by kernel_rfl) Tryd.func4 (by kernel_rfl)
    (of_decide_eq_true (by kernel_rfl)) (by unfold Func.isWrapper; first | (rw [if_pos (by decide +kernel)]; kernel_rfl) | (rw [if_neg (by decide +kernel)]; exact ⟨rfl, rfl⟩))
    (fun os started H enc _ => lifted os started H enc)
theorem proved : Rows.FnERefusesSaid := over
#print axioms proved
end Go.Proofs.YtefaegocllppkaaDoor.fnERefuses
namespace Go.Proofs.YtefaegocllppkaaDoor
/-- The row, under a short name, for the claim. -/
theorem fnERefuses_holds : Rows.FnERefusesSaid := fnERefuses.proved
/-- The tied card. -/
theorem fnERefuses_card : Rows.FnERefusesCardSaid :=
  Claim7.holds_tied_plain_at .later [] [.data] true (true, "3fe28f102d9dface4f49566254110d4ce5b0dfc34c8220c796b036223e9042e6") false
    fnERefuses.over (fun _ h => by cases h) (by kernel_rfl) (fun _ h => by cases h) fnERefuses_row_tie rfl ⟨rfl, rfl⟩ (by kernel_rfl) rfl
    (fun f fn hf hfn => by
      obtain rfl : f = 4 := Option.some.inj ((show Tryd.prog.funcNamed "given.example/pub-tinwright/laws.FnERefuses" = some 4 by kernel_rfl).symm.trans hf) |>.symm
      obtain rfl : fn = Tryd.f4 := (Option.some.inj (Tryd.func4.symm.trans hfn)).symm
      exact ⟨by kernel_rfl, fun j t ht => by
        rw [Tryd.params4] at ht
        have hm : t ∈ (#[9, 9, 9] : Array TypeId) := Array.mem_of_getElem? ht
        simp only [List.mem_toArray, List.mem_cons, List.not_mem_nil, or_false] at hm
        rcases hm with rfl | rfl | rfl
        · exact (show Tryd.prog.wantsStandIn 9 = false by kernel_rfl)
        · exact (show Tryd.prog.wantsStandIn 9 = false by kernel_rfl)
        · exact (show Tryd.prog.wantsStandIn 9 = false by kernel_rfl)⟩)
    (by kernel_rfl)
#print axioms fnERefuses_card
end Go.Proofs.YtefaegocllppkaaDoor
