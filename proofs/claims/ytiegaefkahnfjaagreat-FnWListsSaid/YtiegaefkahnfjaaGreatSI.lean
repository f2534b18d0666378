/- The law of the names that a stack lists, walked. -/
import Derived.Test.YtiegaefkahnfjaaGreatSG
namespace Go.Proofs.YtiegaefkahnfjaaGreat
open Go Go.RowKit V S0 S1 S2 S3 S4 S5 S6 S7 S8 SA SB S9 SC SD SG
set_option linter.unusedSimpArgs false
set_option linter.unusedVariables false
set_option maxRecDepth 10000
namespace SI
theorem call8 : Callable Tryz.prog 8 := ⟨_, Tryz.func8, rfl, by kernel_rfl⟩
theorem call9 : Callable Tryz.prog 9 := ⟨_, Tryz.func9, rfl, by kernel_rfl⟩
theorem call10 : Callable Tryz.prog 10 := ⟨_, Tryz.func10, rfl, by kernel_rfl⟩
theorem call11 : Callable Tryz.prog 11 := ⟨_, Tryz.func11, rfl, by kernel_rfl⟩
theorem call14 : Callable Tryz.prog 14 := ⟨_, Tryz.func14, rfl, by kernel_rfl⟩
theorem call17 : Callable Tryz.prog 17 := ⟨_, Tryz.func17, rfl, by kernel_rfl⟩
theorem flat9 : Flat Tryz.prog 9 := ⟨_, Tryz.underlying9, by simp⟩
theorem flat26 : Flat Tryz.prog 26 := ⟨_, Tryz.underlying26, by simp⟩
theorem ty9 : Ty Tryz.prog 9 (S []) 1 16 := ty_of (by kernel_rfl)
theorem ty26 : Ty Tryz.prog 26 (.slice none 0 0) 1 24 := ty_of (by kernel_rfl)
theorem ty27 : Ty Tryz.prog 27 (.agg #[(.slice none 0 0), (.slice none 0 0), (.slice none 0 0), (.slice none 0 0), (.slice none 0 0)]) 5 120 := ty_of (by kernel_rfl)

theorem nm_get (k : Nat) (h : k < 5) : ([sn0, sn1, sn2, sn3, sn4] : List (List UInt8)).getD k [] = snm k :=
  match k, h with
  | 0, _ => rfl
  | 1, _ => rfl
  | 2, _ => rfl
  | 3, _ => rfl
  | 4, _ => rfl
theorem strs_eq {base n m : Nat} {v : Value} {A : Hp} {xs ys : List Value} (h : OwS base 9 1 v A n xs) (hn : n = m) (hx : xs = ys) : OwS base 9 1 v A m ys := by subst hn; subst hx; exact h
/-- given.example/pub-tinwright/laws.FnWLists -/
theorem lawLists (v : Value) (A : Hp) (l : List WO) (hr : RdS 5 v A l.length (recsV wof l)) : FnR Tryz.prog 7 [v] A (.bool true) := by
  refine FnR.enter (n := 40) Tryz.func7 rfl rfl fun w0 => ?_
  refine WC.sub (fr' := [(0, _)]) ?_ ⟨rfl, trivial⟩
  refine WC.seq (WC.region ?_)
  refine WL.q (oq_assign rfl) rfl rfl rfl ?_
  refine WL.nil (WE.then_normal (WC.sub (fr' := [(0, _)]) ?_ ⟨rfl, trivial⟩))
  refine WC.seq (WC.seq (WC.region ?_))
  refine WL.q (oq_move rfl) rfl rfl rfl ?_
  refine WL.qc (oq_callRm (fits18 v A l hr) (.head _) call8 rfl) rfl rfl rfl ?_
  refine WL.q (oq_not rfl) rfl rfl rfl ?_
  refine WL.nil (WE.then_normal (WC.sub (fr' := [(0, _), (10, _)]) ?_ ⟨rfl, rfl, trivial⟩))
  refine WC.cond rfl (fun q1 => ?_) (fun q1 => ?_)
  ·
    try simp only [Z1, Z2, Z3, Z4, Z5, Z6, Z7, Z8, Z9, Z0] at q1
    refine WC.seq (WC.region ?_)
    refine WL.q (oq_assign rfl) rfl rfl rfl ?_
    refine WL.nil (WE.then_normal (WC.sub (fr' := [(2, _)]) ?_ ⟨rfl, trivial⟩))
    refine WC.ret (WE.then_ret ?_)
    refine WE.endR (.inl rfl) (res1 Tryz.results7 rfl) ?_
    -- end 0
    first | rfl | (rw [decide_eq_true rfl]; done) | (exfalso; omega) | (exfalso; simp_all; done)
  ·
    try simp only [Z1, Z2, Z3, Z4, Z5, Z6, Z7, Z8, Z9, Z0] at q1
    refine WC.skip (WE.then_normal (WC.sub (fr' := [(0, _)]) ?_ ⟨rfl, trivial⟩))
    refine WC.seq (WC.seq (WC.region ?_))
    refine WL.q (oq_move rfl) rfl rfl rfl ?_
    refine WL.qc (oq_callRm (SD.look v A l hr (by first | assumption | (simp_all; done))) (.head _) call9 rfl) rfl rfl rfl ?_
    refine WL.q (oq_not rfl) rfl rfl rfl ?_
    refine WL.nil (WE.then_normal (WC.sub (fr' := [(0, _), (13, _)]) ?_ ⟨rfl, rfl, trivial⟩))
    refine WC.cond rfl (fun q3 => ?_) (fun q3 => ?_)
    ·
      try simp only [Z1, Z2, Z3, Z4, Z5, Z6, Z7, Z8, Z9, Z0] at q3
      refine WC.seq (WC.region ?_)
      refine WL.qc (oq_call (wAwake) call10 rfl) rfl rfl rfl ?_
      refine WL.q (oq_assign rfl) rfl rfl rfl ?_
      refine WL.nil (WE.then_normal (WC.sub (fr' := [(2, _)]) ?_ ⟨rfl, trivial⟩))
      refine WC.ret (WE.then_ret ?_)
      refine WE.endR (.inl rfl) (res1 Tryz.results7 rfl) ?_
      -- end 1
      first | rfl | (rw [decide_eq_true rfl]; done) | (exfalso; omega) | (exfalso; simp_all; done)
    ·
      try simp only [Z1, Z2, Z3, Z4, Z5, Z6, Z7, Z8, Z9, Z0] at q3
      refine WC.skip (WE.then_normal (WC.sub (fr' := [(0, _)]) ?_ ⟨rfl, trivial⟩))
      refine WC.seq ?_
      obtain ⟨hl, hok⟩ := looked_of (by first | assumption | (simp_all; done))
      have hwl := wst_len l l.length (Nat.le_refl _)
      rw [List.take_length] at hwl
      obtain ⟨hwl1, hwl2⟩ := hwl
      have hwl5 : ∀ j, ((wst l).1 j).length ≤ 60 := fun j => by have := hwl1 j; omega
      refine WC.region ?_
      refine WL.q (oq_move rfl) rfl rfl rfl ?_
      refine WL.callA (wSteps v A l hr hl hok) call11 rfl rfl rfl fun v5_1 N5_1 hR5_1 hN5_1 => ?_
      obtain ⟨wv, vs, rfl, hwr, hws⟩ := hR5_1
      refine WL.q (oq_move rfl) rfl rfl rfl ?_
      refine WL.q (oq_extract rfl rfl) rfl rfl rfl ?_
      refine WL.q (oq_extract rfl rfl) rfl rfl rfl ?_
      refine WL.alloc ty27 rfl rfl fun o1 ho1 => ?_
      refine WL.q (oq_assign rfl) rfl rfl rfl ?_
      refine WL.storeS (arr5 vs) ty27 rfl rfl (by kernel_rfl) (arr5_one fun j hj => rd_one (hws j hj)) (Nat.le_of_ble_eq_true rfl) (by kernel_rfl) rfl ?_
      refine WL.nil (WE.then_normal (WC.sub (fr' := [(0, _), (4, _)]) ?_ ⟨rfl, rfl, trivial⟩))
      refine WC.seq ?_
      refine WC.add0 ?_
      refine WC.region ?_
      refine WL.q (oq_assign rfl) rfl rfl rfl ?_
      refine WL.nil (WE.then_normal (WC.sub (fr' := [(0, _), (4, _), (5, _)]) ?_ ⟨rfl, rfl, rfl, trivial⟩))
      refine WC.seq (WC.seq (WC.region ?_))
      refine WL.buildL Tryz.underlying26 ty9 rfl rfl (by decide) (by decide) rfl rfl rfl fun v7_0 A7_0 ho7_0 hne7_0 => ?_
      refine WL.q (oq_len_rd ho7_0.rd Tryz.underlying26 rfl) rfl rfl rfl ?_
      refine WL.q (oq_move rfl) rfl rfl rfl ?_
      refine WL.nil (WE.then_normal (WC.sub (fr' := [(0, _), (4, _), (5, _), (20, _), (21, _), (22, _)]) ?_ ⟨rfl, rfl, rfl, rfl, rfl, rfl, trivial⟩))
      refine WC.block ?_
      refine WC.f4 ?_
      refine WC.f4 ?_
      refine WC.f4 ?_
      refine WC.f3 ?_
      refine WC.f4 ?_
      refine WC.loop (ι := Nat × Value × Hp) (fun i_ => (fun (k : Nat) (w : Value) (W : Hp) => [(0, v), (4, Pt o1 0), (5, w), (20, v7_0), (21, I 5), (22, I (k : Int))]) i_.1 i_.2.1 i_.2.2) (fun i_ => (fun (k : Nat) (w : Value) (W : Hp) => [W, A7_0, [(o1, .cells (arr5 vs) 27 (0, 0))], N5_1, A]) i_.1 i_.2.1 i_.2.2) (fun i_ => (fun (k : Nat) (w : Value) (W : Hp) => k ≤ 5 ∧ OwS w0.heap.size 9 1 w W (namesK (wst l).1 k).length (strsV (namesK (wst l).1 k))) i_.1 i_.2.1 i_.2.2) (fun i_ => (fun (k : Nat) (w : Value) (W : Hp) => 5 - k) i_.1 i_.2.1 i_.2.2) ((0, _, _)) ?_ ⟨rfl, rfl, rfl, rfl, rfl, rfl, trivial⟩ (List.Perm.refl _) ?_
      · try dsimp only
        exact ⟨by omega, OwS.nil _ _ _⟩
      · rintro ⟨k, w, W⟩ hp
        try dsimp only at hp
        obtain ⟨hk, how⟩ := hp
        show WC _ _ _ _ _ _ ([(0, v), (4, Pt o1 0), (5, w), (20, v7_0), (21, I 5), (22, I (k : Int))]) ([W, A7_0, [(o1, .cells (arr5 vs) 27 (0, 0))], N5_1, A])
        have hnm : RdS 1 v7_0 A7_0 5 (strsV [sn0, sn1, sn2, sn3, sn4]) := ho7_0.rd
        refine WC.seq (WC.region ?_)
        refine WL.q (oq_lss rfl rfl) rfl rfl rfl ?_
        refine WL.nil (WE.then_normal (WC.sub (fr' := [(0, _), (4, _), (5, _), (20, _), (21, _), (22, _), (23, _)]) ?_ ⟨rfl, rfl, rfl, rfl, rfl, rfl, rfl, trivial⟩))
        refine WC.seq ?_
        refine WC.cond rfl (fun q8 => ?_) (fun q8 => ?_)
        ·
          try simp only [Z1, Z2, Z3, Z4, Z5, Z6, Z7, Z8, Z9, Z0] at q8
          refine WC.skip (WE.then_normal (WC.sub (fr' := [(0, _), (4, _), (5, _), (20, _), (21, _), (22, _)]) ?_ ⟨rfl, rfl, rfl, rfl, rfl, rfl, trivial⟩))
          refine WC.seq (WC.block (WC.seq (WC.region ?_)))
          refine WL.q (oq_move rfl) rfl rfl rfl ?_
          refine WL.q (oq_ixaddr hnm Tryz.underlying26 ty9 rfl rfl (by (first | omega | (simp only [List.length_cons, List.length_nil, List.length_append, List.length_drop, List.length_take]; omega)))) rfl rfl rfl ?_
          refine WL.q (oq_load_str hnm (.tail _ (.head _)) flat9 rfl (by (first | omega | (simp only [List.length_cons, List.length_nil, List.length_append, List.length_drop, List.length_take]; omega))) (by first | exact Int.toNat_natCast _ | exact rfl)) rfl rfl rfl ?_
          refine WL.q (oq_assign rfl) rfl rfl rfl ?_
          refine WL.q (oq_assign rfl) rfl rfl rfl ?_
          refine WL.nil (WE.then_normal (WC.sub (fr' := [(0, _), (4, _), (5, _), (6, _), (7, _), (20, _), (21, _), (22, _)]) ?_ ⟨rfl, rfl, rfl, rfl, rfl, rfl, rfl, rfl, trivial⟩))
          have hk5 : k < 5 := by omega
          have hls := hws k hk5
          have hqk := hwl5 k
          have hnk := namesK_len (wst l).1 hwl5 k
          have e7 : ([sn0, sn1, sn2, sn3, sn4] : List (List UInt8)).getD k [] = snm k := nm_get k hk5
          refine WC.held ([(o1, .cells (arr5 vs) 27 (0, 0))]) (by kernel_rfl) ?_
          refine WH.q 0 rfl (.tail _ (.tail _ (.head _))) (fun w0 => oq_move rfl) rfl rfl rfl ?_
          refine WH.q 1 rfl (.tail _ (.tail _ (.head _))) (fun w0 => oq_move rfl) rfl rfl rfl ?_
          refine WH.q 4 rfl (.tail _ (.tail _ (.head _))) (fun w0 => oq_move rfl) rfl rfl rfl ?_
          refine WH.q 5 rfl (.tail _ (.tail _ (.head _))) (fun w0 => oq_ixArr (i := k) Tryz.underlying27 ty26 rfl rfl (by (first | omega | (simp only [List.length_cons, List.length_nil, List.length_append, List.length_drop, List.length_take]; omega)))) rfl rfl rfl ?_
          refine WH.q 6 rfl (.tail _ (.tail _ (.head _))) (fun w0 => oq_load flat26 rfl (.head _) (List.mem_singleton.2 rfl) (arr5_get vs k hk5)) rfl rfl rfl ?_
          refine WH.step (i := 2) (by kernel_rfl) rfl ?_
          refine WL.buildL Tryz.underlying26 ty9 rfl rfl (by decide) (by decide) rfl rfl rfl fun v10_2 A10_2 ho10_2 hne10_2 => ?_
          refine WL.nil ?_
          refine WE.toH (.tail _ (.tail _ (.tail _ (.head _)))) ?_
          refine WH.step (i := 3) (by kernel_rfl) rfl ?_
          refine WL.f1 ?_
          refine WL.appendS how Tryz.underlying26 ty9 rfl (by decide) rfl rfl ho10_2.rd (.head _) (fun u hu => by rw [List.mem_singleton.1 hu]; rfl) (by unfold maxLen; omega) (by omega) rfl rfl fun v10 A10 ho10 hne10 => ?_
          refine WL.nil ?_
          refine WE.toH (.tail _ (.tail _ (.tail _ (.head _)))) ?_
          refine WH.step (i := 7) (by kernel_rfl) rfl ?_
          refine WL.appendS ho10 Tryz.underlying26 ty9 rfl (by decide) rfl rfl hls (.tail _ (.tail _ (.tail _ (.head _)))) (strsV_one _) (by unfold maxLen; omega) (by omega) rfl rfl fun v10 A10 ho10 hne10 => ?_
          refine WL.nil ?_
          refine WE.toH (.tail _ (.tail _ (.tail _ (.head _)))) ?_
          refine WH.q 8 rfl (.tail _ (.tail _ (.tail _ (.head _)))) (fun w0 => oq_assign rfl) rfl rfl rfl ?_
          refine WH.done (by kernel_rfl) ?_
          refine WE.block_normal (WE.then_normal (WC.sub (fr' := [(0, _), (4, _), (5, _), (20, _), (21, _), (22, _)]) ?_ ⟨rfl, rfl, rfl, rfl, rfl, rfl, trivial⟩))
          refine WC.region ?_
          refine WL.q (oq_add rfl rfl (by rw [i64_lo, i64_hi]; (first | omega | (simp only [List.length_cons, List.length_nil, List.length_append, List.length_drop, List.length_take]; omega)))) rfl rfl rfl ?_
          refine WL.q (oq_move rfl) rfl rfl rfl ?_
          refine WL.nil ?_
          refine WE.f1 ?_
          refine WE.forget ho10_2.fresh ?_
          refine WE.again (k + 1, _, _) ?_ ?_ ⟨rfl, rfl, rfl, rfl, rfl, rfl, trivial⟩ (List.Perm.refl _)
          · try dsimp only   -- again 0
            exact ⟨by omega, strs_eq ho10 (by simp only [namesK, List.length_append, List.length_cons, List.length_nil]; omega) (by rw [e7]; simp [namesK, strsV])⟩
          · (try dsimp only); omega
        ·
          try simp only [Z1, Z2, Z3, Z4, Z5, Z6, Z7, Z8, Z9, Z0] at q8
          refine WC.exit (WE.then_exit (WE.then_exit (WE.block_same (WE.then_normal (WC.sub (fr' := [(0, _), (5, _)]) ?_ ⟨rfl, rfl, trivial⟩)))))
          refine WC.seq ?_
          have e5 : k = 5 := by omega
          have how5 : RdS 1 w W (namesK (wst l).1 5).length (strsV (namesK (wst l).1 5)) := e5 ▸ how.rd
          refine WC.region ?_
          refine WL.q (oq_move rfl) rfl rfl rfl ?_
          refine WL.f4 ?_
          refine WL.callA (wNames v A l hr hl hok) call17 rfl rfl rfl fun v12_1 N12_1 hR12_1 hN12_1 => ?_
          refine WL.f2 ?_
          refine WL.f1 ?_
          refine WL.cat ?_
          refine WL.q (oq_move rfl) rfl rfl rfl ?_
          refine WL.qc (oq_callRm (wSame v12_1 w (N12_1 ++ W) _ (namesK (wst l).1 5) (hR12_1.weaken fun x hx => List.mem_append_left _ hx) (how5.weaken fun x hx => List.mem_append_right _ hx) (by have := namesK_len (wst l).1 hwl5 5; omega)) (.head _) call14 rfl) rfl rfl rfl ?_
          refine WL.q (oq_assign rfl) rfl rfl rfl ?_
          refine WL.nil (WE.then_normal (WC.sub (fr' := [(2, _)]) ?_ ⟨rfl, trivial⟩))
          refine WC.ret ?_
          refine WE.forget (fresh_cat hN12_1 how.fresh) ?_
          refine WE.f1 ?_
          refine WE.forget ho7_0.fresh ?_
          refine WE.f1 ?_
          refine WE.lose ho1 ?_
          refine WE.f1 ?_
          refine WE.forget hN5_1 ?_
          refine WE.endR (.inl rfl) (res1 Tryz.results7 rfl) ?_
          -- end 2
          first | rfl | (rw [decide_eq_true rfl]; done) | (exfalso; omega) | (exfalso; simp_all; done)

end SI
end Go.Proofs.YtiegaefkahnfjaaGreat
