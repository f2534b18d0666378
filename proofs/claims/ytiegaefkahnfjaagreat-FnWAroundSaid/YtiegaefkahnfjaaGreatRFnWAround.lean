/- The law FnWAround holds: for every input that can be read the call returns true and leaves its arguments as they were. -/
import Derived.Test.YtiegaefkahnfjaaGreatRows
import Derived.Test.YtiegaefkahnfjaaGreatSH
import Derived.Test.YtiegaefkahnfjaaGreatSE
import Derived.Test.YtiegaefkahnfjaaGreatV5
import Derived.WalkKit
import Derived.ProofKit
import Derived.OpenShut
import Derived.ShutString
import Derived.ChangeOld
import Derived.Below
import Derived.SizedLaws
namespace Go.Proofs.YtiegaefkahnfjaaGreat.fnWAround
open Go.ChangeShapes Go.WideShapes Go.ChangeAt Go.RowKit
open Go.ChangeMaps (open_string shut_string)
open Go.Proofs.YtiegaefkahnfjaaGreat Go.Proofs.YtiegaefkahnfjaaGreat.V 
set_option linter.unusedVariables false
theorem own : ownKnob Tryz.prog.godebug = none := by kernel_rfl
theorem laidOut : laidOutB Tryz.prog = true := by kernel_rfl
set_option maxRecDepth 100000 in
theorem lifted (os : Os) (started : os.Started) (H : Type) (enc : TypeId × Value → H) :
    ReturnsInHanded {} Tryz.checked os 4 .any (Rows.fnWAroundSpec.pre6 enc Tryz.prog Tryz.f4 Rows.fnWAroundRow.domain false) (Rows.fnWAroundSpec.post enc Tryz.prog Tryz.f4 false true false false) := by
  refine returnsInHanded_of_change_sized (C := Tryz.checked) own started (by kernel_rfl) Tryz.func4
    (ChangeSpec.witness6 (enc := enc) (C := Tryz.checked) false ⟨#[], #[.slice none 0 0, .int .i64 0, .string ByteArray.empty, .string ByteArray.empty, .string ByteArray.empty], []⟩ 8 (by kernel_rfl) (by kernel_rfl) (by kernel_rfl) (by kernel_rfl)) ?_
  intro W base args ds gs before hval0 hW hcnd hsz0 _
  have hsz : (DataW.weightsEach Tryz.prog (Tryz.f4.params.toList ++ Rows.fnWAroundSpec.plain.varTypes Tryz.prog) (ds ++ gs)).all (· ≤ reachBytes) = true := hsz0
  have hval : ∀ (j : Nat) t v, Tryz.f4.params[j]? = some t → args[j]? = some v → Value.okWide Tryz.prog W .any base t v := hval0
  have hW' := hW
  obtain ⟨p, q, hA0, hV, rfl, hfz, hnd⟩ := hW
  have hA : DataW.TrodAll enc Tryz.prog W 0 (fun _ => true) true Tryz.f4.params.toList args.toList ds p := hA0
  rw [Tryz.params4] at hA hval hsz
  obtain ⟨v0, vs0, d0, ds0, p0, q0, hargs, rfl, rfl, h0, r0⟩ := trodAll_cons hA
  obtain ⟨v1, vs1, d1, ds1, p1, q1, rfl, rfl, rfl, h1, r1⟩ := trodAll_cons r0
  obtain ⟨v2, vs2, d2, ds2, p2, q2, rfl, rfl, rfl, h2, r2⟩ := trodAll_cons r1
  obtain ⟨v3, vs3, d3, ds3, p3, q3, rfl, rfl, rfl, h3, r3⟩ := trodAll_cons r2
  obtain ⟨v4, vs4, d4, ds4, p4, q4, rfl, rfl, rfl, h4, r4⟩ := trodAll_cons r3
  obtain ⟨rfl, rfl, rfl⟩ := trodAll_nil r4
  obtain rfl : args = #[v0, v1, v2, v3, v4] := by cases args; simp_all
  obtain ⟨rfl, rfl⟩ := trodVars_none hV
  have k0 := h0
  have lt0 : ∀ x ∈ p0, x.block < W.heap.size := by obtain ⟨m, hm⟩ := k0; exact DataW.trod_lt m _ _ _ hm
  obtain ⟨l0, A0, has0, rd0, len0⟩ := arg_recs S8.wof (fun _ => rfl) (by decide) Tryz.underlying22 (by kernel_rfl) SE.wo_open (hval 0 22 v0 rfl rfl) h0
  obtain ⟨a1, rfl, rfl, rfl, w1⟩ := open_int Tryz.underlying3 (hval 1 3 v1 rfl rfl) h1
  have b1 := wf_bounds w1
  obtain ⟨a2, rfl, rfl, rfl, y2⟩ := open_string Tryz.underlying9 (hval 2 9 v2 rfl rfl) h2
  have w2 : a2.size ≤ 140737488351232 := by
    have z := sized_string hsz (j := 2) (t := 9) rfl rfl
    rw [Array.length_toList] at z
    exact z
  have y2k := y2
  obtain ⟨⟨l2⟩⟩ := a2
  replace w2 : l2.length ≤ 140737488351232 := w2
  obtain ⟨a3, rfl, rfl, rfl, y3⟩ := open_string Tryz.underlying9 (hval 3 9 v3 rfl rfl) h3
  have w3 : a3.size ≤ 140737488351232 := by
    have z := sized_string hsz (j := 3) (t := 9) rfl rfl
    rw [Array.length_toList] at z
    exact z
  have y3k := y3
  obtain ⟨⟨l3⟩⟩ := a3
  replace w3 : l3.length ≤ 140737488351232 := w3
  obtain ⟨a4, rfl, rfl, rfl, y4⟩ := open_string Tryz.underlying9 (hval 4 9 v4 rfl rfl) h4
  have w4 : a4.size ≤ 140737488351232 := by
    have z := sized_string hsz (j := 4) (t := 9) rfl rfl
    rw [Array.length_toList] at z
    exact z
  have y4k := y4
  obtain ⟨⟨l4⟩⟩ := a4
  replace w4 : l4.length ≤ 140737488351232 := w4
  clear hA0 hval0 hsz0 hsz
  obtain ⟨C, hasC, in0⟩ := has_all1 has0
  have rd0 := rd0.weaken in0
  refine (SH.lawAround _ C l0 rd0 a1 l2 l3 l4 W hasC).mono fun e W' ⟨he, hst⟩ => ?_
  have bel := St.belowR hasC hst
  subst he
  exact ⟨_, rfl, _, _, _, [], _, [], hW', trodAll_mk1 (shut_bool Tryz.underlying4 _), (trodAll_cons_mk (Below.trod laidOut (by kernel_rfl) (of_decide_eq_true (by kernel_rfl)) k0 bel lt0) (trodAll_cons_mk (shut_int Tryz.underlying3 w1) (trodAll_cons_mk (shut_string Tryz.underlying9 y2k) (trodAll_cons_mk (shut_string Tryz.underlying9 y3k) (trodAll_cons_mk (shut_string Tryz.underlying9 y4k) trodAll_mk0))))), rfl, bel.frame _, fun h => by cases h⟩
theorem over : Rows.fnWAroundRow.holds Tryz.pinned (OpenSpec.ofChange Rows.fnWAroundSpec) :=
  OpenClaim.holds_of_wide 4 Tryz.f4 rfl rfl rfl rfl rfl rfl rfl ⟨rfl, rfl, rfl, rfl, rfl⟩ rfl rfl rfl rfl rfl (by kernel_rfl) Tryz.func4 (by kernel_rfl)
    (of_decide_eq_true (by kernel_rfl)) (by unfold Func.isWrapper; first | (rw [if_pos (by decide +kernel)]; kernel_rfl) | (rw [if_neg (by decide +kernel)]; exact ⟨rfl, rfl⟩))
    (fun os started H enc _ => lifted os started H enc)
theorem proved : Rows.FnWAroundSaid := over
#print axioms proved
end Go.Proofs.YtiegaefkahnfjaaGreat.fnWAround
namespace Go.Proofs.YtiegaefkahnfjaaGreat
/-- The row, under a short name, for the claim. -/
theorem fnWAround_holds : Rows.FnWAroundSaid := fnWAround.proved
end Go.Proofs.YtiegaefkahnfjaaGreat
