/- The law FnWCalls holds: for every input that can be read the call returns true and leaves its arguments as they were. -/
import Derived.Test.YtiegaefkahnfjaaGreatRows
import Derived.Test.YtiegaefkahnfjaaGreatSN
import Derived.Test.YtiegaefkahnfjaaGreatSE
import Derived.Test.YtiegaefkahnfjaaGreatV5
import Derived.WalkKit
import Derived.ProofKit
import Derived.OpenShut
import Derived.ShutString
import Derived.ChangeOld
import Derived.Below
import Derived.SizedLaws
namespace Go.Proofs.YtiegaefkahnfjaaGreat.fnWCalls
open Go.ChangeShapes Go.WideShapes Go.ChangeAt Go.RowKit
open Go.ChangeMaps (open_string shut_string)
open Go.Proofs.YtiegaefkahnfjaaGreat Go.Proofs.YtiegaefkahnfjaaGreat.V
set_option linter.unusedVariables false
theorem own : ownKnob Tryz.prog.godebug = none := by kernel_rfl
theorem laidOut : laidOutB Tryz.prog = true := by kernel_rfl
set_option maxRecDepth 100000 in
theorem lifted (os : Os) (started : os.Started) (H : Type) (enc : TypeId × Value → H) :
  ReturnsInHanded {} Tryz.checked os 6 .any (Rows.fnWCallsSpec.pre6 enc Tryz.prog Tryz.f6 Rows.fnWCallsRow.domain false) (Rows.fnWCallsSpec.post enc Tryz.prog Tryz.f6 false true false false) := by
 refine returnsInHanded_of_change_sized (C := Tryz.checked) own started (by kernel_rfl) Tryz.func6
  (ChangeSpec.witness6 (enc := enc) (C := Tryz.checked) false ⟨#[], #[.slice none 0 0, .string ByteArray.empty, .bool false], []⟩ 8 (by kernel_rfl) (by kernel_rfl) (by kernel_rfl) (by kernel_rfl)) ?_
 intro W base args ds gs before hval0 hW hcnd hsz0 _
 have hsz : (DataW.weightsEach Tryz.prog (Tryz.f6.params.toList ++ Rows.fnWCallsSpec.plain.varTypes Tryz.prog) (ds ++ gs)).all (· ≤ reachBytes) = true := hsz0
 have hval : ∀ (j : Nat) t v, Tryz.f6.params[j]? = some t → args[j]? = some v → Value.okWide Tryz.prog W .any base t v := hval0
 have hW' := hW
 obtain ⟨p, q, hA0, hV, rfl, hfz, hnd⟩ := hW
 have hA : DataW.TrodAll enc Tryz.prog W 0 (fun _ => true) true Tryz.f6.params.toList args.toList ds p := hA0
 rw [Tryz.params6] at hA hval hsz
 obtain ⟨v0, vs0, d0, ds0, p0, q0, hargs, rfl, rfl, h0, r0⟩ := trodAll_cons hA
 obtain ⟨v1, vs1, d1, ds1, p1, q1, rfl, rfl, rfl, h1, r1⟩ := trodAll_cons r0
 obtain ⟨v2, vs2, d2, ds2, p2, q2, rfl, rfl, rfl, h2, r2⟩ := trodAll_cons r1
 obtain ⟨rfl, rfl, rfl⟩ := trodAll_nil r2
 obtain rfl : args = #[v0, v1, v2] := by cases args; simp_all
 obtain ⟨rfl, rfl⟩ := trodVars_none hV
 have k0 := h0
 have lt0 : ∀ x ∈ p0, x.block < W.heap.size := by obtain ⟨m, hm⟩ := k0; exact DataW.trod_lt m _ _ _ hm
 obtain ⟨l0, A0, has0, rd0, len0⟩ := arg_recs S8.wof (fun _ => rfl) (by decide) Tryz.underlying22 (by kernel_rfl) SE.wo_open (hval 0 22 v0 rfl rfl) h0
 obtain ⟨a1, rfl, rfl, rfl, y1⟩ := open_string Tryz.underlying9 (hval 1 9 v1 rfl rfl) h1
 have w1 : a1.size ≤ 140737488351232 := by
  have z := sized_string hsz (j := 1) (t := 9) rfl rfl
  rw [Array.length_toList] at z
  exact z
 have y1k := y1
 obtain ⟨⟨l1⟩⟩ := a1
 replace w1 : l1.length ≤ 140737488351232 := w1
 obtain ⟨a2, rfl, rfl, rfl⟩ := open_bool Tryz.underlying4 (hval 2 4 v2 rfl rfl) h2
 clear hA0 hval0 hsz0 hsz
 obtain ⟨C, hasC, in0⟩ := has_all1 has0
 have rd0 := rd0.weaken in0
 refine (SN.lawCalls _ C l0 rd0 l1 a2 W hasC).mono fun e W' ⟨he, hst⟩ => ?_
 have bel := St.belowR hasC hst
 subst he
 exact ⟨_, rfl, _, _, _, [], _, [], hW', trodAll_mk1 (shut_bool Tryz.underlying4 _), (trodAll_cons_mk (Below.trod laidOut (by kernel_rfl) (of_decide_eq_true (by kernel_rfl)) k0 bel lt0) (trodAll_cons_mk (shut_string Tryz.underlying9 y1k) (trodAll_cons_mk (shut_bool Tryz.underlying4 _) trodAll_mk0))), rfl, bel.frame _, fun h => by cases h⟩
theorem over : Rows.fnWCallsRow.holds Tryz.pinned (OpenSpec.ofChange Rows.fnWCallsSpec) :=
 OpenClaim.holds_of_wide 6 Tryz.f6 rfl rfl rfl rfl rfl rfl rfl ⟨rfl, rfl, rfl, rfl, rfl⟩ rfl rfl rfl rfl rfl (by kernel_rfl) Tryz.func6 (by kernel_rfl)
  (of_decide_eq_true (by kernel_rfl)) (by unfold Func.isWrapper; first | (rw [if_pos (by decide +kernel)]; kernel_rfl) | (rw [if_neg (by decide +kernel)]; exact ⟨rfl, rfl⟩))
  (fun os started H enc _ => lifted os started H enc)
theorem proved : Rows.FnWCallsSaid := over
#print axioms proved
end Go.Proofs.YtiegaefkahnfjaaGreat.fnWCalls
namespace Go.Proofs.YtiegaefkahnfjaaGreat
theorem fnWCalls_holds : Rows.FnWCallsSaid := fnWCalls.proved
end Go.Proofs.YtiegaefkahnfjaaGreat
