/- Stacks behind operations, walked: names of each step, and which ones are there. -/
import Derived.Test.YtclafiglpcjhdaaGreatSB
import Derived.Test.YtclafiglpcjhdaaGreatS9
namespace Go.Proofs.YtclafiglpcjhdaaGreat
open Go Go.RowKit V S0 S1 S2 S3 S4 S5 S6 S7 S8 SA SB S9
set_option linter.unusedSimpArgs false
set_option linter.unusedVariables false
set_option maxRecDepth 10000
namespace SC
theorem call20 : Callable Tryz.prog 20 := ⟨_, Tryz.func20, rfl, by kernel_rfl⟩
theorem flat60 : Flat Tryz.prog 60 := ⟨_, Tryz.underlying60, by simp⟩
theorem ty60 : Ty Tryz.prog 60 .nilFunc 1 8 := ty_of (by kernel_rfl)
theorem ty62 : Ty Tryz.prog 62 (.agg #[.nilFunc, .nilFunc, .nilFunc, .nilFunc, .nilFunc, .nilFunc, .nilFunc]) 7 56 := ty_of (by kernel_rfl)
theorem ty63 : Ty Tryz.prog 63 (.agg #[.nilFunc, .nilFunc, .nilFunc, .nilFunc, .nilFunc, .nilFunc, .nilFunc, .nilFunc, .nilFunc, .nilFunc, .nilFunc, .nilFunc, .nilFunc, .nilFunc, .nilFunc, .nilFunc, .nilFunc, .nilFunc, .nilFunc, .nilFunc, .nilFunc, .nilFunc, .nilFunc, .nilFunc, .nilFunc, .nilFunc, .nilFunc, .nilFunc, .nilFunc, .nilFunc, .nilFunc, .nilFunc, .nilFunc, .nilFunc, .nilFunc]) 35 280 := ty_of (by kernel_rfl)
theorem ty68 : Ty Tryz.prog 68 (.agg #[(.slice none 0 0), (S []), (.bool false)]) 3 48 := ty_of (by kernel_rfl)
theorem str68 : Str Tryz.prog 68 #[(0, 1), (1, 1), (2, 1)] := ⟨_, Tryz.underlying68, fun w => by kernel_rfl⟩
theorem fld62_6 : Fld Tryz.prog 62 6 6 60 := fld_of Tryz.underlying62 rfl rfl rfl ty60 (by decide)

theorem aLstW {G : SS} {its : Nat → List Nd} {i base : Nat} (hi : i < 5) (hl : (its i).length ≤ 100000) : FnW Tryz.prog (fList i) [Pt (G.sb i) 0] base [All G its] (fun v Hs => ∃ N, OwS 0 9 1 v N (its i).length (strsV (ids its i)) ∧ (∀ b o, (b, o) ∈ N → base ≤ b) ∧ Hs = [All G its, N]) := fnA_toW (aLst hi hl)
theorem stps_get (G : SS) (i : Nat) (hi : i < 5) : (stps G)[0 + i * 7 + 6]? = some (.func (.func (cHas i)) #[] #[Pt (G.b2 i) 0]) :=
  match i, hi with
  | 0, _ => by kernel_rfl
  | 1, _ => by kernel_rfl
  | 2, _ => by kernel_rfl
  | 3, _ => by kernel_rfl
  | 4, _ => by kernel_rfl
/-- given.example/pub-tinwright/impl.WHas -/
theorem wHas (v : Value) (A : Hp) (l : List WO) (hr : RdS 5 v A l.length (recsV wof l)) (hl : l.length ≤ 60) (hok : l.all lookP = true) (si : Nat) (hs5 : si < 5) (id : List UInt8) : FnR Tryz.prog 12 [v, I (si : Int), S id] A (.bool (decide (id ∈ (wst l).1 si))) := by
  refine FnR.enter (n := 32) Tryz.func12 rfl rfl fun w0 => ?_
  refine WC.sub (fr' := [(0, _), (1, _), (2, _)]) ?_ ⟨rfl, rfl, rfl, trivial⟩
  refine WC.seq (WC.region ?_)
  refine WL.q (oq_assign rfl) rfl rfl rfl ?_
  refine WL.nil (WE.then_normal (WC.sub (fr' := [(0, _), (1, _), (2, _)]) ?_ ⟨rfl, rfl, rfl, trivial⟩))
  refine WC.seq (WC.region ?_)
  refine WL.q (oq_move rfl) rfl rfl rfl ?_
  refine WL.q (oq_build #[_, _, _] str68 ty68 rfl rfl) rfl rfl rfl ?_
  refine WL.box rfl rfl rfl fun cb hcb => ?_
  refine WL.f1 ?_
  refine WL.callA (done v A l hr hl hok cb) call20 rfl rfl rfl fun v1_3 N1_3 hR1_3 hN1_3 => ?_
  obtain ⟨st, G, its, X, E, ve, rfl, rfl, hids, hre, hXb, hOk⟩ := hR1_3
  refine WL.reg split4 ?_
  refine WL.q (oq_move rfl) rfl rfl rfl ?_
  refine WL.q (oq_extract rfl rfl) rfl rfl rfl ?_
  refine WL.q (oq_extract rfl rfl) rfl rfl rfl ?_
  refine WL.q (oq_extract rfl rfl) rfl rfl rfl ?_
  refine WL.alloc ty63 rfl rfl fun tb htb => ?_
  refine WL.q (oq_assign rfl) rfl rfl rfl ?_
  refine WL.storeS (stps G) ty63 rfl rfl (by kernel_rfl) (by kernel_rfl) (Nat.le_of_ble_eq_true rfl) (by kernel_rfl) rfl ?_
  refine WL.q (oq_assign rfl) rfl rfl rfl ?_
  refine WL.nil (WE.then_normal (WC.sub (fr' := [(1, _), (2, _), (8, _)]) ?_ ⟨rfl, rfl, rfl, trivial⟩))
  refine WC.seq (WC.region ?_)
  refine WL.q (oq_move rfl) rfl rfl rfl ?_
  refine WL.q (oq_geq rfl rfl) rfl rfl rfl ?_
  refine WL.q (oq_move rfl) rfl rfl rfl ?_
  refine WL.split 20 rfl (fun s2_2 => ?_) (fun s2_2 => ?_)
  ·
    try simp only [Z1, Z2, Z3, Z4, Z5, Z6, Z7, Z8, Z9, Z0] at s2_2
    refine WL.q (oq_move rfl) rfl rfl rfl ?_
    refine WL.q (oq_lss rfl rfl) rfl rfl rfl ?_
    refine WL.q (oq_pick_t rfl rfl) rfl rfl rfl ?_
    refine WL.q (oq_move rfl) rfl rfl rfl ?_
    refine WL.split 24 rfl (fun s2_6 => ?_) (fun s2_6 => ?_)
    ·
      try simp only [Z1, Z2, Z3, Z4, Z5, Z6, Z7, Z8, Z9, Z0] at s2_6
      refine WL.q (oq_move rfl) rfl rfl rfl ?_
      refine WL.q (oq_ixArrN (i := si) Tryz.underlying63 ty62 (by decide) rfl rfl (by (first | omega | (simp only [List.length_cons, List.length_nil, List.length_append, List.length_drop, List.length_take]; omega)))) rfl rfl rfl ?_
      refine WL.q (oq_fieldAddr fld62_6 rfl) rfl rfl rfl ?_
      refine WL.q (oq_load flat60 rfl (.head _) (List.mem_singleton.2 rfl) (stps_get G si hs5)) rfl rfl rfl ?_
      refine WL.q (oq_move rfl) rfl rfl rfl ?_
      refine WL.f2 ?_
      refine WL.callWE (args := [S id, Pt (G.b2 si) 0]) (fun a w hf => run_enterv (first := []) (vs := [S id]) (cap := [Pt (G.b2 si) 0]) (call_cHas si hs5) rfl rfl hf w) (aHas hs5 id) rfl rfl rfl rfl fun v2_12 Hs2_12 hR2_12 => ?_
      obtain ⟨rfl, rfl⟩ := hR2_12
      refine WL.app1 ?_
      refine WL.q (oq_pick_t rfl rfl) rfl rfl rfl ?_
      refine WL.q (oq_assign rfl) rfl rfl rfl ?_
      refine WL.nil (WE.then_normal (WC.sub (fr' := [(6, _)]) ?_ ⟨rfl, trivial⟩))
      refine WC.ret ?_
      refine WE.forget (fr_r (fr_l (fr_l hN1_3))) ?_
      refine WE.lose htb ?_
      refine WE.forget (fr_l (fr_l (fr_l hN1_3))) ?_
      refine WE.forget (fr_r (fr_l hN1_3)) ?_
      refine WE.forget (fr_r hN1_3) ?_
      refine WE.f1 ?_
      refine WE.lose hcb ?_
      refine WE.endR (.inl rfl) (res1 Tryz.results12 rfl) ?_
      -- end 0
      first | (rw [hids]; done) | (exfalso; omega)
    ·
      try simp only [Z1, Z2, Z3, Z4, Z5, Z6, Z7, Z8, Z9, Z0] at s2_6
      refine WL.skip rfl rfl rfl ?_
      refine WL.skip rfl rfl rfl ?_
      refine WL.skip rfl rfl rfl ?_
      refine WL.skip rfl rfl rfl ?_
      refine WL.skip rfl rfl rfl ?_
      refine WL.skip rfl rfl rfl ?_
      refine WL.q (oq_pick_f rfl rfl) rfl rfl rfl ?_
      refine WL.q (oq_assign rfl) rfl rfl rfl ?_
      refine WL.nil (WE.then_normal (WC.sub (fr' := [(6, _)]) ?_ ⟨rfl, trivial⟩))
      refine WC.ret ?_
      refine WE.lose htb ?_
      refine WE.forget (fr_l (fr_l (fr_l hN1_3))) ?_
      refine WE.forget (fr_r (fr_l (fr_l hN1_3))) ?_
      refine WE.forget (fr_r (fr_l hN1_3)) ?_
      refine WE.forget (fr_r hN1_3) ?_
      refine WE.f1 ?_
      refine WE.lose hcb ?_
      refine WE.endR (.inl rfl) (res1 Tryz.results12 rfl) ?_
      -- end 1
      first | (rw [hids]; done) | (exfalso; omega)
  ·
    try simp only [Z1, Z2, Z3, Z4, Z5, Z6, Z7, Z8, Z9, Z0] at s2_2
    refine WL.skip rfl rfl rfl ?_
    refine WL.skip rfl rfl rfl ?_
    refine WL.q (oq_pick_f rfl rfl) rfl rfl rfl ?_
    refine WL.q (oq_move rfl) rfl rfl rfl ?_
    refine WL.skip rfl rfl rfl ?_
    refine WL.skip rfl rfl rfl ?_
    refine WL.skip rfl rfl rfl ?_
    refine WL.skip rfl rfl rfl ?_
    refine WL.skip rfl rfl rfl ?_
    refine WL.skip rfl rfl rfl ?_
    refine WL.q (oq_pick_f rfl rfl) rfl rfl rfl ?_
    refine WL.q (oq_assign rfl) rfl rfl rfl ?_
    refine WL.nil (WE.then_normal (WC.sub (fr' := [(6, _)]) ?_ ⟨rfl, trivial⟩))
    refine WC.ret ?_
    refine WE.lose htb ?_
    refine WE.forget (fr_l (fr_l (fr_l hN1_3))) ?_
    refine WE.forget (fr_r (fr_l (fr_l hN1_3))) ?_
    refine WE.forget (fr_r (fr_l hN1_3)) ?_
    refine WE.forget (fr_r hN1_3) ?_
    refine WE.f1 ?_
    refine WE.lose hcb ?_
    refine WE.endR (.inl rfl) (res1 Tryz.results12 rfl) ?_
    -- end 2
    first | (rw [hids]; done) | (exfalso; omega)

end SC
end Go.Proofs.YtclafiglpcjhdaaGreat
