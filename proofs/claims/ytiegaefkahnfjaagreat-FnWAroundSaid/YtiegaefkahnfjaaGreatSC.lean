/- Stacks behind operations, walked: names of each step, and which ones are there. -/
import Derived.Test.YtiegaefkahnfjaaGreatSB
import Derived.Test.YtiegaefkahnfjaaGreatS9
namespace Go.Proofs.YtiegaefkahnfjaaGreat
open Go Go.RowKit V S0 S1 S2 S3 S4 S5 S6 S7 S8 SA SB S9
set_option linter.unusedSimpArgs false
set_option linter.unusedVariables false
set_option maxRecDepth 10000
namespace SC
theorem call20 : Callable Tryz.prog 20 := ⟨_, Tryz.func20, rfl, by kernel_rfl⟩
theorem flat47 : Flat Tryz.prog 47 := ⟨_, Tryz.underlying47, by simp⟩
theorem flat48 : Flat Tryz.prog 48 := ⟨_, Tryz.underlying48, by simp⟩
theorem ty26 : Ty Tryz.prog 26 (.slice none 0 0) 1 24 := ty_of (by kernel_rfl)
theorem ty27 : Ty Tryz.prog 27 (.agg #[(.slice none 0 0), (.slice none 0 0), (.slice none 0 0), (.slice none 0 0), (.slice none 0 0)]) 5 120 := ty_of (by kernel_rfl)
theorem ty47 : Ty Tryz.prog 47 .nilFunc 1 8 := ty_of (by kernel_rfl)
theorem ty48 : Ty Tryz.prog 48 .nilFunc 1 8 := ty_of (by kernel_rfl)
theorem ty50 : Ty Tryz.prog 50 (.agg #[.nilFunc, .nilFunc, .nilFunc, .nilFunc, .nilFunc, .nilFunc, .nilFunc]) 7 56 := ty_of (by kernel_rfl)
theorem ty51 : Ty Tryz.prog 51 (.agg #[.nilFunc, .nilFunc, .nilFunc, .nilFunc, .nilFunc, .nilFunc, .nilFunc, .nilFunc, .nilFunc, .nilFunc, .nilFunc, .nilFunc, .nilFunc, .nilFunc, .nilFunc, .nilFunc, .nilFunc, .nilFunc, .nilFunc, .nilFunc, .nilFunc, .nilFunc, .nilFunc, .nilFunc, .nilFunc, .nilFunc, .nilFunc, .nilFunc, .nilFunc, .nilFunc, .nilFunc, .nilFunc, .nilFunc, .nilFunc, .nilFunc]) 35 280 := ty_of (by kernel_rfl)
theorem ty56 : Ty Tryz.prog 56 (.agg #[(.slice none 0 0), (S []), (.bool false)]) 3 48 := ty_of (by kernel_rfl)
theorem agg27 : Agg Tryz.prog 27 := agg_arr Tryz.underlying27
theorem agg50 : Agg Tryz.prog 50 := agg_of Tryz.underlying50
theorem agg51 : Agg Tryz.prog 51 := agg_arr Tryz.underlying51
theorem str56 : Str Tryz.prog 56 #[(0, 1), (1, 1), (2, 1)] := ⟨_, Tryz.underlying56, fun w => by kernel_rfl⟩
theorem fld50_5 : Fld Tryz.prog 50 5 5 47 := fld_of Tryz.underlying50 rfl rfl rfl ty47 (by decide)
theorem fld50_6 : Fld Tryz.prog 50 6 6 48 := fld_of Tryz.underlying50 rfl rfl rfl ty48 (by decide)

theorem aLstW {G : SS} {its : Nat → List Nd} {i base : Nat} (hi : i < 5) (hl : (its i).length ≤ 100000) : FnW Tryz.prog (fList i) [Pt (G.sb i) 0] base [All G its] (fun v Hs => ∃ N, OwS 0 9 1 v N (its i).length (strsV (ids its i)) ∧ (∀ b o, (b, o) ∈ N → base ≤ b) ∧ Hs = [All G its, N]) := fnA_toW (aLst hi hl)
theorem stps_get (G : SS) (i : Nat) (hi : i < 5) : (stps G)[0 + i * 7 + 6]? = some (.func (.func (cHas i)) #[] #[Pt (G.b2 i) 0]) :=
  match i, hi with
  | 0, _ => by kernel_rfl
  | 1, _ => by kernel_rfl
  | 2, _ => by kernel_rfl
  | 3, _ => by kernel_rfl
  | 4, _ => by kernel_rfl
/-- given.example/pub-tinwright/impl.WStack -/
theorem wStack (v : Value) (A : Hp) (l : List WO) (hr : RdS 5 v A l.length (recsV wof l)) (hl : l.length ≤ 60) (hok : l.all lookP = true) : FnA Tryz.prog 13 [v] A (WR l) := by
  refine FnA.enter (n := 31) Tryz.func13 rfl rfl fun w0 => ?_
  refine WC.sub (fr' := [(0, _)]) ?_ ⟨rfl, trivial⟩
  refine WC.seq (WC.region ?_)
  refine WL.q (oq_assign rfl) rfl rfl rfl ?_
  refine WL.alloc ty27 rfl rfl fun rb hrb => ?_
  refine WL.nil (WE.then_normal (WC.sub (fr' := [(0, _), (3, _)]) ?_ ⟨rfl, rfl, trivial⟩))
  refine WC.seq (WC.region ?_)
  refine WL.q (oq_move rfl) rfl rfl rfl ?_
  refine WL.q (oq_build #[_, _, _] str56 ty56 rfl rfl) rfl rfl rfl ?_
  refine WL.box rfl rfl rfl fun cb hcb => ?_
  refine WL.f2 ?_
  refine WL.callA (done v A l hr hl hok cb) call20 rfl rfl rfl fun v1_3 N1_3 hR1_3 hN1_3 => ?_
  obtain ⟨st, G, its, X, E, ve, rfl, rfl, hids, hre, hXb, hOk⟩ := hR1_3
  refine WL.reg split4 ?_
  refine WL.q (oq_move rfl) rfl rfl rfl ?_
  refine WL.q (oq_extract rfl rfl) rfl rfl rfl ?_
  refine WL.q (oq_extract rfl rfl) rfl rfl rfl ?_
  refine WL.q (oq_extract rfl rfl) rfl rfl rfl ?_
  refine WL.alloc ty51 rfl rfl fun tb htb => ?_
  refine WL.q (oq_assign rfl) rfl rfl rfl ?_
  refine WL.storeS (stps G) ty51 rfl rfl (by kernel_rfl) (by kernel_rfl) (Nat.le_of_ble_eq_true rfl) (by kernel_rfl) rfl ?_
  refine WL.q (oq_assign rfl) rfl rfl rfl ?_
  refine WL.nil (WE.then_normal (WC.sub (fr' := [(3, _), (5, _), (6, _)]) ?_ ⟨rfl, rfl, rfl, trivial⟩))
  refine WC.seq ?_
  refine WC.add0 ?_
  refine WC.region ?_
  refine WL.alloc ty27 rfl rfl fun ob hob => ?_
  refine WL.nil (WE.then_normal (WC.sub (fr' := [(3, _), (5, _), (6, _), (7, _)]) ?_ ⟨rfl, rfl, rfl, rfl, trivial⟩))
  refine WC.seq (WC.seq (WC.region ?_))
  refine WL.q (oq_loadS ((stps G).toList) agg51 ty51 rfl (.tail _ (.tail _ (.head _))) (List.mem_singleton.2 rfl) (by kernel_rfl) (by kernel_rfl)) rfl rfl rfl ?_
  refine WL.q (oq_move rfl) rfl rfl rfl ?_
  refine WL.nil (WE.then_normal (WC.sub (fr' := [(3, _), (6, _), (7, _), (18, _), (19, _)]) ?_ ⟨rfl, rfl, rfl, rfl, rfl, trivial⟩))
  refine WC.block ?_
  refine WC.f2 ?_
  refine WC.lose htb ?_
  refine WC.f2 ?_
  refine WC.forget (fr_l (fr_l (fr_l hN1_3))) ?_
  refine WC.f3 ?_
  refine WC.forget (fr_r (fr_l hN1_3)) ?_
  refine WC.f5 ?_
  refine WC.lose hcb ?_
  refine WC.f4 ?_
  refine WC.f4 ?_
  refine WC.f4 ?_
  refine WC.f4 ?_
  refine WC.f4 ?_
  refine WC.f5 ?_
  refine WC.loop (ι := Nat × (Nat → Value) × Hp) (fun i_ => (fun (k : Nat) (vs : Nat → Value) (M : Hp) => [(3, Pt rb 0), (6, ve), (7, Pt ob 0), (18, .agg (stps G).toList.toArray), (19, I (k : Int))]) i_.1 i_.2.1 i_.2.2) (fun i_ => (fun (k : Nat) (vs : Nat → Value) (M : Hp) => [[(rb, .cells #[.slice none 0 0, .slice none 0 0, .slice none 0 0, .slice none 0 0, .slice none 0 0] 27 (0, 0))], [(ob, .cells (arr5 vs) 27 (0, 0))], M, All G its, E, A]) i_.1 i_.2.1 i_.2.2) (fun i_ => (fun (k : Nat) (vs : Nat → Value) (M : Hp) => k ≤ 5 ∧ (∀ j, j < k → RdS 1 (vs j) M ((wst l).1 j).length (strsV ((wst l).1 j))) ∧ (∀ b o, (b, o) ∈ M → w0.heap.size ≤ b)) i_.1 i_.2.1 i_.2.2) (fun i_ => (fun (k : Nat) (vs : Nat → Value) (M : Hp) => 5 - k) i_.1 i_.2.1 i_.2.2) ((0, (fun _ => .slice none 0 0), [])) ?_ ⟨rfl, rfl, rfl, rfl, rfl, trivial⟩ (List.Perm.refl _) ?_
  · try dsimp only
    exact ⟨by omega, fun j hj => by omega, fun _ _ h => nomatch h⟩
  · rintro ⟨k, vs, M⟩ hp
    try dsimp only at hp
    obtain ⟨hk, hM, hMf⟩ := hp
    show WC _ _ _ _ _ _ ([(3, Pt rb 0), (6, ve), (7, Pt ob 0), (18, .agg (stps G).toList.toArray), (19, I (k : Int))]) ([[(rb, .cells #[.slice none 0 0, .slice none 0 0, .slice none 0 0, .slice none 0 0, .slice none 0 0] 27 (0, 0))], [(ob, .cells (arr5 vs) 27 (0, 0))], M, All G its, E, A])
    refine WC.seq (WC.region ?_)
    refine WL.q (oq_lss rfl rfl) rfl rfl rfl ?_
    refine WL.nil (WE.then_normal (WC.sub (fr' := [(3, _), (6, _), (7, _), (18, _), (19, _), (20, _)]) ?_ ⟨rfl, rfl, rfl, rfl, rfl, rfl, trivial⟩))
    refine WC.seq ?_
    refine WC.cond rfl (fun q4 => ?_) (fun q4 => ?_)
    ·
      try simp only [Z1, Z2, Z3, Z4, Z5, Z6, Z7, Z8, Z9, Z0] at q4
      refine WC.skip (WE.then_normal (WC.sub (fr' := [(3, _), (6, _), (7, _), (18, _), (19, _)]) ?_ ⟨rfl, rfl, rfl, rfl, rfl, trivial⟩))
      refine WC.seq (WC.block (WC.seq ?_))
      have hk5 : k < 5 := by omega
      have hitl : ∀ j, (its j).length ≤ 100000 := fun j => by have h1 := (wst_len l l.length (Nat.le_refl _)).1 j; rw [List.take_length, ← hids, ids_len] at h1; omega
      refine WC.region ?_
      refine WL.q (oq_move rfl) rfl rfl rfl ?_
      refine WL.q (oq_indexA (stp k (G.sb k) (G.b2 k) (G.b5 k)) Tryz.underlying51 agg50 ty50 rfl rfl (by (first | omega | (simp only [List.length_cons, List.length_nil, List.length_append, List.length_drop, List.length_take]; omega))) (by rw [Array.toArray_toList]; exact stps_ex G k (by omega))) rfl rfl rfl ?_
      refine WL.alloc ty50 rfl rfl fun tt htt => ?_
      refine WL.q (oq_assign rfl) rfl rfl rfl ?_
      refine WL.storeS (stp k (G.sb k) (G.b2 k) (G.b5 k)) ty50 rfl rfl (by kernel_rfl) (by kernel_rfl) (Nat.le_of_ble_eq_true rfl) (by kernel_rfl) rfl ?_
      refine WL.nil (WE.then_normal (WC.sub (fr' := [(3, _), (6, _), (7, _), (8, _), (9, _), (18, _), (19, _)]) ?_ ⟨rfl, rfl, rfl, rfl, rfl, rfl, rfl, trivial⟩))
      refine WC.region ?_
      refine WL.q (oq_move rfl) rfl rfl rfl ?_
      refine WL.q (oq_fieldAddr fld50_5 rfl) rfl rfl rfl ?_
      refine WL.q (oq_load flat47 rfl (.head _) (List.mem_singleton.2 rfl) rfl) rfl rfl rfl ?_
      refine WL.f4 ?_
      refine WL.callWE (args := [Pt (G.sb k) 0]) (fun a w hf => run_enterv (first := [Pt (G.sb k) 0]) (vs := []) (cap := []) (call_fList k hk5) rfl rfl hf w) (aLstW (its := its) hk5 (hitl k)) rfl rfl rfl rfl fun v6_3 Hs6_3 hR6_3 => ?_
      obtain ⟨N, ho, hNf, rfl⟩ := hR6_3
      have hMf2 := fresh_cat hNf hMf
      have hv2 := ho.rd
      rw [← ids_len, hids] at hv2
      refine WL.app2 ?_
      refine WL.q (oq_ixArr Tryz.underlying27 ty26 rfl rfl (by (first | omega | (simp only [List.length_cons, List.length_nil, List.length_append, List.length_drop, List.length_take]; omega)))) rfl rfl rfl ?_
      refine WL.f4 ?_
      refine WL.storeX ty26 rfl rfl (rd_one hv2) (by show 0 + k < 5; omega) (by simp) (arr5_set vs k hk5 v6_3) rfl ?_
      refine WL.nil (WE.block_normal (WE.then_normal (WC.sub (fr' := [(3, _), (6, _), (7, _), (18, _), (19, _)]) ?_ ⟨rfl, rfl, rfl, rfl, rfl, trivial⟩)))
      refine WC.f5 ?_
      refine WC.f3 ?_
      refine WC.reg (reg_in (List.Perm.refl _)) ?_
      refine WC.region ?_
      refine WL.q (oq_add rfl rfl (by rw [i64_lo, i64_hi]; (first | omega | (simp only [List.length_cons, List.length_nil, List.length_append, List.length_drop, List.length_take]; omega)))) rfl rfl rfl ?_
      refine WL.q (oq_move rfl) rfl rfl rfl ?_
      refine WL.nil ?_
      refine WE.f3 ?_
      refine WE.lose htt ?_
      refine WE.f5 ?_
      refine WE.f5 ?_
      refine WE.f4 ?_
      refine WE.f3 ?_
      refine WE.f4 ?_
      refine WE.f5 ?_
      refine WE.again (k + 1, updW vs k v6_3, _) ?_ ?_ ⟨rfl, rfl, rfl, rfl, rfl, trivial⟩ (List.Perm.refl _)
      · try dsimp only   -- again 0
        exact ⟨by omega, fun j hj => upd_rdk hM hv2 j hj, hMf2⟩
      · (try dsimp only); omega
    ·
      try simp only [Z1, Z2, Z3, Z4, Z5, Z6, Z7, Z8, Z9, Z0] at q4
      refine WC.exit (WE.then_exit (WE.then_exit (WE.block_same (WE.then_normal (WC.sub (fr' := [(3, _), (6, _), (7, _)]) ?_ ⟨rfl, rfl, rfl, trivial⟩)))))
      refine WC.seq ?_
      refine WC.tailM (pl := []) (ql := [_, _, _]) (tl := [_]) [] [0, 1, 2] 3 [] (by kernel_rfl) (by kernel_rfl) (by kernel_rfl) (by kernel_rfl) (by kernel_rfl) (by kernel_rfl) (by decide) rfl rfl rfl (by decide) (by repeat (first | with_reducible exact QOk.body | with_reducible apply QOk.then | with_reducible apply QOk.block | exact QOk.body | apply QOk.then | apply QOk.block)) ?_
      refine WM.nil ?_
      refine WY.q (oq_move rfl) rfl rfl rfl ?_
      refine WY.q (oq_loadS ((arr5 vs).toList) agg27 ty27 rfl (.tail _ (.head _)) (List.mem_singleton.2 rfl) (by kernel_rfl) (by kernel_rfl)) rfl rfl rfl ?_
      refine WY.q (oq_assign rfl) rfl rfl rfl ?_
      refine WY.nil ?_
      refine WL.storeS (arr5 vs) ty27 rfl rfl (by kernel_rfl) (arr5_one fun j hj => rd_one (hM j (by omega))) (Nat.le_of_ble_eq_true rfl) (by kernel_rfl) rfl ?_
      refine WL.nil (WE.then_normal (WC.sub (fr' := [(2, _), (3, _)]) ?_ ⟨rfl, rfl, trivial⟩))
      refine WC.ret ?_
      refine WE.endDA (.inl rfl) (rs2 Tryz.results13 (rv_tmp rfl) (rv_cellS (arr5 vs).toList agg27 ty27 rfl (.head _) (List.mem_singleton.2 rfl) (by kernel_rfl) (by kernel_rfl))) (dr_lose hrb (dr_lose hob (dr_f1 (dr_forget (fr_r (fr_l (fr_l hN1_3))) (dr_cat dr_refl))))) (fresh_cat (hMf) ((fr_r hN1_3))) ?_
      -- end 0
      obtain rfl : k = 5 := by omega
      exact ⟨ve, vs, rfl, hre.weaken fun x hx => List.mem_append_right _ hx, fun j hj => (hM j hj).weaken fun x hx => List.mem_append_left _ hx⟩

/-- given.example/pub-tinwright/impl.WHas -/
theorem wHas (v : Value) (A : Hp) (l : List WO) (hr : RdS 5 v A l.length (recsV wof l)) (hl : l.length ≤ 60) (hok : l.all lookP = true) (si : Nat) (hs5 : si < 5) (id : List UInt8) : FnR Tryz.prog 12 [v, I (si : Int), S id] A (.bool (decide (id ∈ (wst l).1 si))) := by
  refine FnR.enter (n := 32) Tryz.func12 rfl rfl fun w0 => ?_
  refine WC.sub (fr' := [(0, _), (1, _), (2, _)]) ?_ ⟨rfl, rfl, rfl, trivial⟩
  refine WC.seq (WC.region ?_)
  refine WL.q (oq_assign rfl) rfl rfl rfl ?_
  refine WL.nil (WE.then_normal (WC.sub (fr' := [(0, _), (1, _), (2, _)]) ?_ ⟨rfl, rfl, rfl, trivial⟩))
  refine WC.seq (WC.region ?_)
  refine WL.q (oq_move rfl) rfl rfl rfl ?_
  refine WL.q (oq_build #[_, _, _] str56 ty56 rfl rfl) rfl rfl rfl ?_
  refine WL.box rfl rfl rfl fun cb hcb => ?_
  refine WL.f1 ?_
  refine WL.callA (done v A l hr hl hok cb) call20 rfl rfl rfl fun v1_3 N1_3 hR1_3 hN1_3 => ?_
  obtain ⟨st, G, its, X, E, ve, rfl, rfl, hids, hre, hXb, hOk⟩ := hR1_3
  refine WL.reg split4 ?_
  refine WL.q (oq_move rfl) rfl rfl rfl ?_
  refine WL.q (oq_extract rfl rfl) rfl rfl rfl ?_
  refine WL.q (oq_extract rfl rfl) rfl rfl rfl ?_
  refine WL.q (oq_extract rfl rfl) rfl rfl rfl ?_
  refine WL.alloc ty51 rfl rfl fun tb htb => ?_
  refine WL.q (oq_assign rfl) rfl rfl rfl ?_
  refine WL.storeS (stps G) ty51 rfl rfl (by kernel_rfl) (by kernel_rfl) (Nat.le_of_ble_eq_true rfl) (by kernel_rfl) rfl ?_
  refine WL.q (oq_assign rfl) rfl rfl rfl ?_
  refine WL.nil (WE.then_normal (WC.sub (fr' := [(1, _), (2, _), (8, _)]) ?_ ⟨rfl, rfl, rfl, trivial⟩))
  refine WC.seq (WC.region ?_)
  refine WL.q (oq_move rfl) rfl rfl rfl ?_
  refine WL.q (oq_geq rfl rfl) rfl rfl rfl ?_
  refine WL.q (oq_move rfl) rfl rfl rfl ?_
  refine WL.split 20 rfl (fun s2_2 => ?_) (fun s2_2 => ?_)
  ·
    try simp only [Z1, Z2, Z3, Z4, Z5, Z6, Z7, Z8, Z9, Z0] at s2_2
    refine WL.q (oq_move rfl) rfl rfl rfl ?_
    refine WL.q (oq_lss rfl rfl) rfl rfl rfl ?_
    refine WL.q (oq_pick_t rfl rfl) rfl rfl rfl ?_
    refine WL.q (oq_move rfl) rfl rfl rfl ?_
    refine WL.split 24 rfl (fun s2_6 => ?_) (fun s2_6 => ?_)
    ·
      try simp only [Z1, Z2, Z3, Z4, Z5, Z6, Z7, Z8, Z9, Z0] at s2_6
      refine WL.q (oq_move rfl) rfl rfl rfl ?_
      refine WL.q (oq_ixArrN (i := si) Tryz.underlying51 ty50 (by decide) rfl rfl (by (first | omega | (simp only [List.length_cons, List.length_nil, List.length_append, List.length_drop, List.length_take]; omega)))) rfl rfl rfl ?_
      refine WL.q (oq_fieldAddr fld50_6 rfl) rfl rfl rfl ?_
      refine WL.q (oq_load flat48 rfl (.head _) (List.mem_singleton.2 rfl) (stps_get G si hs5)) rfl rfl rfl ?_
      refine WL.q (oq_move rfl) rfl rfl rfl ?_
      refine WL.f2 ?_
      refine WL.callWE (args := [S id, Pt (G.b2 si) 0]) (fun a w hf => run_enterv (first := []) (vs := [S id]) (cap := [Pt (G.b2 si) 0]) (call_cHas si hs5) rfl rfl hf w) (aHas hs5 id) rfl rfl rfl rfl fun v2_12 Hs2_12 hR2_12 => ?_
      obtain ⟨rfl, rfl⟩ := hR2_12
      refine WL.app1 ?_
      refine WL.q (oq_pick_t rfl rfl) rfl rfl rfl ?_
      refine WL.q (oq_assign rfl) rfl rfl rfl ?_
      refine WL.nil (WE.then_normal (WC.sub (fr' := [(6, _)]) ?_ ⟨rfl, trivial⟩))
      refine WC.ret ?_
      refine WE.forget (fr_r (fr_l (fr_l hN1_3))) ?_
      refine WE.lose htb ?_
      refine WE.forget (fr_l (fr_l (fr_l hN1_3))) ?_
      refine WE.forget (fr_r (fr_l hN1_3)) ?_
      refine WE.forget (fr_r hN1_3) ?_
      refine WE.f1 ?_
      refine WE.lose hcb ?_
      refine WE.endR (.inl rfl) (res1 Tryz.results12 rfl) ?_
      -- end 0
      first | (rw [hids]; done) | (exfalso; omega)
    ·
      try simp only [Z1, Z2, Z3, Z4, Z5, Z6, Z7, Z8, Z9, Z0] at s2_6
      refine WL.skip rfl rfl rfl ?_
      refine WL.skip rfl rfl rfl ?_
      refine WL.skip rfl rfl rfl ?_
      refine WL.skip rfl rfl rfl ?_
      refine WL.skip rfl rfl rfl ?_
      refine WL.skip rfl rfl rfl ?_
      refine WL.q (oq_pick_f rfl rfl) rfl rfl rfl ?_
      refine WL.q (oq_assign rfl) rfl rfl rfl ?_
      refine WL.nil (WE.then_normal (WC.sub (fr' := [(6, _)]) ?_ ⟨rfl, trivial⟩))
      refine WC.ret ?_
      refine WE.lose htb ?_
      refine WE.forget (fr_l (fr_l (fr_l hN1_3))) ?_
      refine WE.forget (fr_r (fr_l (fr_l hN1_3))) ?_
      refine WE.forget (fr_r (fr_l hN1_3)) ?_
      refine WE.forget (fr_r hN1_3) ?_
      refine WE.f1 ?_
      refine WE.lose hcb ?_
      refine WE.endR (.inl rfl) (res1 Tryz.results12 rfl) ?_
      -- end 1
      first | (rw [hids]; done) | (exfalso; omega)
  ·
    try simp only [Z1, Z2, Z3, Z4, Z5, Z6, Z7, Z8, Z9, Z0] at s2_2
    refine WL.skip rfl rfl rfl ?_
    refine WL.skip rfl rfl rfl ?_
    refine WL.q (oq_pick_f rfl rfl) rfl rfl rfl ?_
    refine WL.q (oq_move rfl) rfl rfl rfl ?_
    refine WL.skip rfl rfl rfl ?_
    refine WL.skip rfl rfl rfl ?_
    refine WL.skip rfl rfl rfl ?_
    refine WL.skip rfl rfl rfl ?_
    refine WL.skip rfl rfl rfl ?_
    refine WL.skip rfl rfl rfl ?_
    refine WL.q (oq_pick_f rfl rfl) rfl rfl rfl ?_
    refine WL.q (oq_assign rfl) rfl rfl rfl ?_
    refine WL.nil (WE.then_normal (WC.sub (fr' := [(6, _)]) ?_ ⟨rfl, trivial⟩))
    refine WC.ret ?_
    refine WE.lose htb ?_
    refine WE.forget (fr_l (fr_l (fr_l hN1_3))) ?_
    refine WE.forget (fr_r (fr_l (fr_l hN1_3))) ?_
    refine WE.forget (fr_r (fr_l hN1_3)) ?_
    refine WE.forget (fr_r hN1_3) ?_
    refine WE.f1 ?_
    refine WE.lose hcb ?_
    refine WE.endR (.inl rfl) (res1 Tryz.results12 rfl) ?_
    -- end 2
    first | (rw [hids]; done) | (exfalso; omega)

end SC
end Go.Proofs.YtiegaefkahnfjaaGreat
