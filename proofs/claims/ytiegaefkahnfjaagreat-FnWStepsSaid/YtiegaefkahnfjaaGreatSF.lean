/- The law of what each step has, walked. -/
import Derived.Test.YtiegaefkahnfjaaGreatSD
namespace Go.Proofs.YtiegaefkahnfjaaGreat
open Go Go.RowKit V S0 S1 S2 S3 S4 S5 S6 S7 S8 SA SB S9 SC SD
set_option linter.unusedSimpArgs false
set_option linter.unusedVariables false
set_option maxRecDepth 10000
namespace SF
theorem call8 : Callable Tryz.prog 8 := ⟨_, Tryz.func8, rfl, by kernel_rfl⟩
theorem call9 : Callable Tryz.prog 9 := ⟨_, Tryz.func9, rfl, by kernel_rfl⟩
theorem call10 : Callable Tryz.prog 10 := ⟨_, Tryz.func10, rfl, by kernel_rfl⟩
theorem call11 : Callable Tryz.prog 11 := ⟨_, Tryz.func11, rfl, by kernel_rfl⟩
theorem call13 : Callable Tryz.prog 13 := ⟨_, Tryz.func13, rfl, by kernel_rfl⟩
theorem call14 : Callable Tryz.prog 14 := ⟨_, Tryz.func14, rfl, by kernel_rfl⟩
theorem flat4 : Flat Tryz.prog 4 := ⟨_, Tryz.underlying4, by simp⟩
theorem flat26 : Flat Tryz.prog 26 := ⟨_, Tryz.underlying26, by simp⟩
theorem ty4 : Ty Tryz.prog 4 (.bool false) 1 1 := ty_of (by kernel_rfl)
theorem ty26 : Ty Tryz.prog 26 (.slice none 0 0) 1 24 := ty_of (by kernel_rfl)
theorem ty27 : Ty Tryz.prog 27 (.agg #[(.slice none 0 0), (.slice none 0 0), (.slice none 0 0), (.slice none 0 0), (.slice none 0 0)]) 5 120 := ty_of (by kernel_rfl)
/-- given.example/pub-tinwright/laws.FnWSteps -/
theorem lawSteps (v : Value) (A : Hp) (l : List WO) (hr : RdS 5 v A l.length (recsV wof l)) : FnR Tryz.prog 5 [v] A (.bool true) := by
  refine FnR.enter (n := 59) Tryz.func5 rfl rfl fun w0 => ?_
  refine WC.sub (fr' := [(0, _)]) ?_ ⟨rfl, trivial⟩
  refine WC.seq (WC.region ?_)
  refine WL.q (oq_assign rfl) rfl rfl rfl ?_
  refine WL.nil (WE.then_normal (WC.sub (fr' := [(0, _)]) ?_ ⟨rfl, trivial⟩))
  refine WC.seq (WC.seq (WC.region ?_))
  refine WL.q (oq_move rfl) rfl rfl rfl ?_
  refine WL.qc (oq_callRm (fits18 v A l hr) (.head _) call8 rfl) rfl rfl rfl ?_
  refine WL.q (oq_not rfl) rfl rfl rfl ?_
  refine WL.nil (WE.then_normal (WC.sub (fr' := [(0, _), (11, _)]) ?_ ⟨rfl, rfl, trivial⟩))
  refine WC.cond rfl (fun q1 => ?_) (fun q1 => ?_)
  ·
    try simp only [Z1, Z2, Z3, Z4, Z5, Z6, Z7, Z8, Z9, Z0] at q1
    refine WC.seq (WC.region ?_)
    refine WL.q (oq_assign rfl) rfl rfl rfl ?_
    refine WL.nil (WE.then_normal (WC.sub (fr' := [(2, _)]) ?_ ⟨rfl, trivial⟩))
    refine WC.ret (WE.then_ret ?_)
    refine WE.endR (.inl rfl) (res1 Tryz.results5 rfl) ?_
    -- end 0
    first | rfl | (exfalso; omega) | (exfalso; simp_all; done)
  ·
    try simp only [Z1, Z2, Z3, Z4, Z5, Z6, Z7, Z8, Z9, Z0] at q1
    refine WC.skip (WE.then_normal (WC.sub (fr' := [(0, _)]) ?_ ⟨rfl, trivial⟩))
    refine WC.seq (WC.seq (WC.region ?_))
    refine WL.q (oq_move rfl) rfl rfl rfl ?_
    refine WL.qc (oq_callRm (SD.look v A l hr (by first | assumption | (simp_all; done))) (.head _) call9 rfl) rfl rfl rfl ?_
    refine WL.q (oq_not rfl) rfl rfl rfl ?_
    refine WL.nil (WE.then_normal (WC.sub (fr' := [(0, _), (14, _)]) ?_ ⟨rfl, rfl, trivial⟩))
    refine WC.cond rfl (fun q3 => ?_) (fun q3 => ?_)
    ·
      try simp only [Z1, Z2, Z3, Z4, Z5, Z6, Z7, Z8, Z9, Z0] at q3
      refine WC.seq (WC.region ?_)
      refine WL.qc (oq_call (wAwake) call10 rfl) rfl rfl rfl ?_
      refine WL.q (oq_assign rfl) rfl rfl rfl ?_
      refine WL.nil (WE.then_normal (WC.sub (fr' := [(2, _)]) ?_ ⟨rfl, trivial⟩))
      refine WC.ret (WE.then_ret ?_)
      refine WE.endR (.inl rfl) (res1 Tryz.results5 rfl) ?_
      -- end 1
      first | rfl | (exfalso; omega) | (exfalso; simp_all; done)
    ·
      try simp only [Z1, Z2, Z3, Z4, Z5, Z6, Z7, Z8, Z9, Z0] at q3
      refine WC.skip (WE.then_normal (WC.sub (fr' := [(0, _)]) ?_ ⟨rfl, trivial⟩))
      refine WC.seq ?_
      obtain ⟨hl, hok⟩ := looked_of (by first | assumption | (simp_all; done))
      have hwl := wst_len l l.length (Nat.le_refl _)
      rw [List.take_length] at hwl
      obtain ⟨hwl1, hwl2⟩ := hwl
      refine WC.region ?_
      refine WL.q (oq_move rfl) rfl rfl rfl ?_
      refine WL.callA (wStack v A l hr hl hok) call13 rfl rfl rfl fun v5_1 N5_1 hR5_1 hN5_1 => ?_
      obtain ⟨wv, vs, rfl, hwr, hws⟩ := hR5_1
      refine WL.q (oq_move rfl) rfl rfl rfl ?_
      refine WL.q (oq_extract rfl rfl) rfl rfl rfl ?_
      refine WL.q (oq_extract rfl rfl) rfl rfl rfl ?_
      refine WL.alloc ty27 rfl rfl fun o1 ho1 => ?_
      refine WL.q (oq_assign rfl) rfl rfl rfl ?_
      refine WL.storeS (arr5 vs) ty27 rfl rfl (by kernel_rfl) (arr5_one fun j hj => rd_one (hws j hj)) (Nat.le_of_ble_eq_true rfl) (by kernel_rfl) rfl ?_
      refine WL.nil (WE.then_normal (WC.sub (fr' := [(0, _), (3, _), (4, _)]) ?_ ⟨rfl, rfl, rfl, trivial⟩))
      refine WC.seq (WC.region ?_)
      refine WL.q (oq_move rfl) rfl rfl rfl ?_
      refine WL.f2 ?_
      refine WL.callA (wSteps v A l hr hl hok) call11 rfl rfl rfl fun v6_1 N6_1 hR6_1 hN6_1 => ?_
      obtain ⟨wv2, vs2, rfl, hwr2, hws2⟩ := hR6_1
      have hCf := fresh_cat hN5_1 hN6_1
      have hg3 := hwr.weaken (C := (N5_1 ++ N6_1)) fun x hx => List.mem_append_left _ hx
      have hg4 := hwr2.weaken (C := (N5_1 ++ N6_1)) fun x hx => List.mem_append_right _ hx
      have hs3 := fun j hj => (hws j hj).weaken (C := (N5_1 ++ N6_1)) fun x hx => List.mem_append_left _ hx
      have hs4 := fun j hj => (hws2 j hj).weaken (C := (N5_1 ++ N6_1)) fun x hx => List.mem_append_right _ hx
      refine WL.q (oq_move rfl) rfl rfl rfl ?_
      refine WL.q (oq_extract rfl rfl) rfl rfl rfl ?_
      refine WL.q (oq_extract rfl rfl) rfl rfl rfl ?_
      refine WL.alloc ty27 rfl rfl fun o2 ho2 => ?_
      refine WL.q (oq_assign rfl) rfl rfl rfl ?_
      refine WL.storeS (arr5 vs2) ty27 rfl rfl (by kernel_rfl) (arr5_one fun j hj => rd_one (hws2 j hj)) (Nat.le_of_ble_eq_true rfl) (by kernel_rfl) rfl ?_
      refine WL.nil (WE.then_normal (WC.sub (fr' := [(3, _), (4, _), (5, _), (6, _)]) ?_ ⟨rfl, rfl, rfl, rfl, trivial⟩))
      refine WC.seq (WC.seq (WC.region ?_))
      refine WL.f1 ?_
      refine WL.f4 ?_
      refine WL.cat ?_
      refine WL.q (oq_move rfl) rfl rfl rfl ?_
      refine WL.q (oq_len_rd hg3 Tryz.underlying25 rfl) rfl rfl rfl ?_
      refine WL.q (oq_move rfl) rfl rfl rfl ?_
      refine WL.q (oq_len_rd hg4 Tryz.underlying25 rfl) rfl rfl rfl ?_
      refine WL.q (oq_neq rfl rfl) rfl rfl rfl ?_
      refine WL.nil (WE.then_normal (WC.sub (fr' := [(3, _), (4, _), (5, _), (6, _), (30, _)]) ?_ ⟨rfl, rfl, rfl, rfl, rfl, trivial⟩))
      refine WC.cond rfl (fun q7 => ?_) (fun q7 => ?_)
      ·
        try simp only [Z1, Z2, Z3, Z4, Z5, Z6, Z7, Z8, Z9, Z0] at q7
        refine WC.seq ?_
        first | contradiction | exact absurd rfl (by assumption) | (exfalso; omega) | (exfalso; simp_all; done)
      ·
        try simp only [Z1, Z2, Z3, Z4, Z5, Z6, Z7, Z8, Z9, Z0] at q7
        refine WC.skip (WE.then_normal (WC.sub (fr' := [(3, _), (4, _), (5, _), (6, _)]) ?_ ⟨rfl, rfl, rfl, rfl, trivial⟩))
        refine WC.seq (WC.seq (WC.region ?_))
        refine WL.q (oq_assign rfl) rfl rfl rfl ?_
        refine WL.nil (WE.then_normal (WC.sub (fr' := [(3, _), (4, _), (5, _), (6, _), (7, _)]) ?_ ⟨rfl, rfl, rfl, rfl, rfl, trivial⟩))
        refine WC.block ?_
        refine WC.f2 ?_
        refine WC.f2 ?_
        refine WC.f3 ?_
        refine WC.f3 ?_
        refine WC.loop (ι := Nat) (fun (i : Nat) => [(3, wv), (4, Pt o1 0), (5, wv2), (6, Pt o2 0), (7, I (i : Int))]) (fun (i : Nat) => [(N5_1 ++ N6_1), [(o1, .cells (arr5 vs) 27 (0, 0))], [(o2, .cells (arr5 vs2) 27 (0, 0))], A]) (fun (i : Nat) => i ≤ (wst l).2.length) (fun (i : Nat) => (wst l).2.length - i) (0) ?_ ⟨rfl, rfl, rfl, rfl, rfl, trivial⟩ (List.Perm.refl _) ?_
        · try dsimp only
          omega
        · rintro i hp
          try dsimp only at hp
          show WC _ _ _ _ _ _ ([(3, wv), (4, Pt o1 0), (5, wv2), (6, Pt o2 0), (7, I (i : Int))]) ([(N5_1 ++ N6_1), [(o1, .cells (arr5 vs) 27 (0, 0))], [(o2, .cells (arr5 vs2) 27 (0, 0))], A])
          have hi := hp
          refine WC.seq (WC.seq (WC.region ?_))
          refine WL.q (oq_move rfl) rfl rfl rfl ?_
          refine WL.q (oq_move rfl) rfl rfl rfl ?_
          refine WL.q (oq_len_rd hg4 Tryz.underlying25 rfl) rfl rfl rfl ?_
          refine WL.q (oq_lss rfl rfl) rfl rfl rfl ?_
          refine WL.nil (WE.then_normal (WC.sub (fr' := [(3, _), (4, _), (5, _), (6, _), (7, _), (34, _)]) ?_ ⟨rfl, rfl, rfl, rfl, rfl, rfl, trivial⟩))
          refine WC.cond rfl (fun q10 => ?_) (fun q10 => ?_)
          ·
            try simp only [Z1, Z2, Z3, Z4, Z5, Z6, Z7, Z8, Z9, Z0] at q10
            refine WC.skip (WE.then_normal (WC.sub (fr' := [(3, _), (4, _), (5, _), (6, _), (7, _)]) ?_ ⟨rfl, rfl, rfl, rfl, rfl, trivial⟩))
            refine WC.seq (WC.block (WC.seq (WC.quiet (by kernel_rfl) (by kernel_rfl) ?_)))
            refine WQ.q (oq_move rfl) rfl rfl rfl ?_
            refine WQ.q (oq_move rfl) rfl rfl rfl ?_
            refine WQ.q (oq_ixaddr hg3 Tryz.underlying25 ty4 rfl rfl (by (first | omega | (simp only [List.length_cons, List.length_nil, List.length_append, List.length_drop, List.length_take]; omega)))) rfl rfl rfl ?_
            refine WQ.q (oq_load_bool hg3 (.head _) flat4 rfl (by (first | omega | (simp only [List.length_cons, List.length_nil, List.length_append, List.length_drop, List.length_take]; omega))) (by first | exact Int.toNat_natCast _ | exact rfl)) rfl rfl rfl ?_
            refine WQ.q (oq_move rfl) rfl rfl rfl ?_
            refine WQ.q (oq_move rfl) rfl rfl rfl ?_
            refine WQ.q (oq_ixaddr hg4 Tryz.underlying25 ty4 rfl rfl (by (first | omega | (simp only [List.length_cons, List.length_nil, List.length_append, List.length_drop, List.length_take]; omega)))) rfl rfl rfl ?_
            refine WQ.q (oq_load_bool hg4 (.head _) flat4 rfl (by (first | omega | (simp only [List.length_cons, List.length_nil, List.length_append, List.length_drop, List.length_take]; omega))) (by first | exact Int.toNat_natCast _ | exact rfl)) rfl rfl rfl ?_
            refine WQ.q (oq_bneq Tryz.underlying4 rfl rfl) rfl rfl rfl ?_
            refine WQ.nil (WE.then_normal (WC.sub (fr' := [(3, _), (4, _), (5, _), (6, _), (7, _), (45, _)]) ?_ ⟨rfl, rfl, rfl, rfl, rfl, rfl, trivial⟩))
            refine WC.cond rfl (fun q12 => ?_) (fun q12 => ?_)
            ·
              try simp only [Z1, Z2, Z3, Z4, Z5, Z6, Z7, Z8, Z9, Z0] at q12
              refine WC.seq ?_
              first | contradiction | exact absurd rfl (by assumption) | (exfalso; omega) | (exfalso; simp_all; done)
            ·
              try simp only [Z1, Z2, Z3, Z4, Z5, Z6, Z7, Z8, Z9, Z0] at q12
              refine WC.skip (WE.block_normal (WE.then_normal (WC.sub (fr' := [(3, _), (4, _), (5, _), (6, _), (7, _)]) ?_ ⟨rfl, rfl, rfl, rfl, rfl, trivial⟩)))
              refine WC.region ?_
              refine WL.q (oq_move rfl) rfl rfl rfl ?_
              refine WL.q (oq_add rfl rfl (by rw [i64_lo, i64_hi]; (first | omega | (simp only [List.length_cons, List.length_nil, List.length_append, List.length_drop, List.length_take]; omega)))) rfl rfl rfl ?_
              refine WL.q (oq_assign rfl) rfl rfl rfl ?_
              refine WL.nil ?_
              refine WE.again (i + 1) ?_ ?_ ⟨rfl, rfl, rfl, rfl, rfl, trivial⟩ (List.Perm.refl _)
              · try dsimp only   -- again 0
                show i + 1 ≤ _; omega
              · (try dsimp only); omega
          ·
            try simp only [Z1, Z2, Z3, Z4, Z5, Z6, Z7, Z8, Z9, Z0] at q10
            refine WC.exit (WE.then_exit (WE.then_exit (WE.block_same (WE.then_normal (WC.sub (fr' := [(4, _), (6, _)]) ?_ ⟨rfl, rfl, trivial⟩)))))
            refine WC.seq (WC.seq (WC.region ?_))
            refine WL.q (oq_assign rfl) rfl rfl rfl ?_
            refine WL.nil (WE.then_normal (WC.sub (fr' := [(4, _), (6, _), (8, _)]) ?_ ⟨rfl, rfl, rfl, trivial⟩))
            refine WC.block ?_
            refine WC.loop (ι := Nat) (fun (k : Nat) => [(4, Pt o1 0), (6, Pt o2 0), (8, I (k : Int))]) (fun (k : Nat) => [(N5_1 ++ N6_1), [(o1, .cells (arr5 vs) 27 (0, 0))], [(o2, .cells (arr5 vs2) 27 (0, 0))], A]) (fun (k : Nat) => k ≤ 5) (fun (k : Nat) => 5 - k) (0) ?_ ⟨rfl, rfl, rfl, trivial⟩ (List.Perm.refl _) ?_
            · try dsimp only
              omega
            · rintro k hp
              try dsimp only at hp
              show WC _ _ _ _ _ _ ([(4, Pt o1 0), (6, Pt o2 0), (8, I (k : Int))]) ([(N5_1 ++ N6_1), [(o1, .cells (arr5 vs) 27 (0, 0))], [(o2, .cells (arr5 vs2) 27 (0, 0))], A])
              have hk := hp
              refine WC.seq (WC.seq (WC.region ?_))
              refine WL.q (oq_move rfl) rfl rfl rfl ?_
              refine WL.q (oq_lss rfl rfl) rfl rfl rfl ?_
              refine WL.nil (WE.then_normal (WC.sub (fr' := [(4, _), (6, _), (8, _), (47, _)]) ?_ ⟨rfl, rfl, rfl, rfl, trivial⟩))
              refine WC.cond rfl (fun q15 => ?_) (fun q15 => ?_)
              ·
                try simp only [Z1, Z2, Z3, Z4, Z5, Z6, Z7, Z8, Z9, Z0] at q15
                refine WC.skip (WE.then_normal (WC.sub (fr' := [(4, _), (6, _), (8, _)]) ?_ ⟨rfl, rfl, rfl, trivial⟩))
                refine WC.seq (WC.block (WC.seq ?_))
                have hk5 : k < 5 := by omega
                refine WC.quiet (by kernel_rfl) (by kernel_rfl) ?_
                refine WQ.q (oq_move rfl) rfl rfl rfl ?_
                refine WQ.q (oq_ixArr (i := k) Tryz.underlying27 ty26 rfl rfl (by (first | omega | (simp only [List.length_cons, List.length_nil, List.length_append, List.length_drop, List.length_take]; omega)))) rfl rfl rfl ?_
                refine WQ.q (oq_load flat26 rfl (.tail _ (.head _)) (List.mem_singleton.2 rfl) (arr5_get vs k hk5)) rfl rfl rfl ?_
                refine WQ.q (oq_move rfl) rfl rfl rfl ?_
                refine WQ.q (oq_ixArr (i := k) Tryz.underlying27 ty26 rfl rfl (by (first | omega | (simp only [List.length_cons, List.length_nil, List.length_append, List.length_drop, List.length_take]; omega)))) rfl rfl rfl ?_
                refine WQ.q (oq_load flat26 rfl (.tail _ (.tail _ (.head _))) (List.mem_singleton.2 rfl) (arr5_get vs2 k hk5)) rfl rfl rfl ?_
                refine WQ.qc (oq_callRm (wSame (vs k) (vs2 k) (N5_1 ++ N6_1) ((wst l).1 k) ((wst l).1 k) (hs3 k hk5) (hs4 k hk5) (by have := hwl1 k; omega)) (.head _) call14 rfl) rfl rfl rfl ?_
                refine WQ.q (oq_not rfl) rfl rfl rfl ?_
                refine WQ.nil (WE.then_normal (WC.sub (fr' := [(4, _), (6, _), (8, _), (57, _)]) ?_ ⟨rfl, rfl, rfl, rfl, trivial⟩))
                refine WC.cond rfl (fun q17 => ?_) (fun q17 => ?_)
                ·
                  try simp only [Z1, Z2, Z3, Z4, Z5, Z6, Z7, Z8, Z9, Z0] at q17
                  refine WC.seq ?_
                  first | contradiction | exact absurd rfl (by assumption) | (exfalso; omega) | (exfalso; simp_all; done)
                ·
                  try simp only [Z1, Z2, Z3, Z4, Z5, Z6, Z7, Z8, Z9, Z0] at q17
                  refine WC.skip (WE.block_normal (WE.then_normal (WC.sub (fr' := [(4, _), (6, _), (8, _)]) ?_ ⟨rfl, rfl, rfl, trivial⟩)))
                  refine WC.region ?_
                  refine WL.q (oq_move rfl) rfl rfl rfl ?_
                  refine WL.q (oq_add rfl rfl (by rw [i64_lo, i64_hi]; (first | omega | (simp only [List.length_cons, List.length_nil, List.length_append, List.length_drop, List.length_take]; omega)))) rfl rfl rfl ?_
                  refine WL.q (oq_assign rfl) rfl rfl rfl ?_
                  refine WL.nil ?_
                  refine WE.again (k + 1) ?_ ?_ ⟨rfl, rfl, rfl, trivial⟩ (List.Perm.refl _)
                  · try dsimp only   -- again 0
                    show k + 1 ≤ 5; omega
                  · (try dsimp only); omega
              ·
                try simp only [Z1, Z2, Z3, Z4, Z5, Z6, Z7, Z8, Z9, Z0] at q15
                refine WC.exit (WE.then_exit (WE.then_exit (WE.block_same (WE.then_normal (WC.sub (fr' := []) ?_ trivial)))))
                refine WC.seq (WC.region ?_)
                refine WL.qc (oq_call (wAwake) call10 rfl) rfl rfl rfl ?_
                refine WL.q (oq_assign rfl) rfl rfl rfl ?_
                refine WL.nil (WE.then_normal (WC.sub (fr' := [(2, _)]) ?_ ⟨rfl, trivial⟩))
                refine WC.ret ?_
                refine WE.forget hCf ?_
                refine WE.lose ho1 ?_
                refine WE.lose ho2 ?_
                refine WE.endR (.inl rfl) (res1 Tryz.results5 rfl) ?_
                -- end 2
                first | rfl | (exfalso; omega) | (exfalso; simp_all; done)

end SF
end Go.Proofs.YtiegaefkahnfjaaGreat
