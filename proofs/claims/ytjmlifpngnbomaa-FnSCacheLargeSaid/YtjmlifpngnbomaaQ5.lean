/- The law of a cache, walked. -/
import Derived.Test.YtjmlifpngnbomaaQ4
namespace Go.Proofs.Ytjmlifpngnbomaa
open Go Go.RowKit V Q0 Q1 Q2 QC L2 Q4
set_option linter.unusedSimpArgs false
set_option linter.unusedVariables false
set_option maxRecDepth 10000
namespace Q5
theorem call5 : Callable Try.prog 5 := ⟨_, Try.func5, rfl, by kernel_rfl⟩
theorem call6 : Callable Try.prog 6 := ⟨_, Try.func6, rfl, by kernel_rfl⟩
theorem call7 : Callable Try.prog 7 := ⟨_, Try.func7, rfl, by kernel_rfl⟩
theorem call8 : Callable Try.prog 8 := ⟨_, Try.func8, rfl, by kernel_rfl⟩
theorem call9 : Callable Try.prog 9 := ⟨_, Try.func9, rfl, by kernel_rfl⟩
theorem flat4 : Flat Try.prog 4 := ⟨_, Try.underlying4, by simp⟩
theorem flat9 : Flat Try.prog 9 := ⟨_, Try.underlying9, by simp⟩
theorem ty4 : Ty Try.prog 4 (.bool false) 1 1 := ty_of (by kernel_rfl)
theorem ty9 : Ty Try.prog 9 (S []) 1 16 := ty_of (by kernel_rfl)
/-- given.example/pub-tinwright/laws.FnSCache -/
theorem law (v : Value) (A : Hp) (l : List SO) (hr : RdS 3 v A l.length (recsV sof l)) (n : Int) (hn : -9223372036854775808 ≤ n ∧ n ≤ 9223372036854775807) : FnR Try.prog 3 [I n, v] A (.bool true) := by
  refine FnR.enter (n := 75) Try.func3 rfl rfl fun w0 => ?_
  refine WC.sub (fr' := [(0, _), (1, _)]) ?_ ⟨rfl, rfl, trivial⟩
  refine WC.seq ?_
  refine WC.region ?_
  refine WL.q (oq_assign rfl) rfl rfl rfl ?_
  refine WL.nil ?_
  refine WE.then_normal ?_
  refine WC.sub (fr' := [(0, _), (1, _)]) ?_ ⟨rfl, rfl, trivial⟩
  refine WC.seq ?_
  refine WC.seq ?_
  refine WC.region ?_
  refine WL.q (oq_move rfl) rfl rfl rfl ?_
  refine WL.qc (oq_callRm (fits14 v A l hr) (.head _) call5 rfl) rfl rfl rfl ?_
  refine WL.q (oq_not rfl) rfl rfl rfl ?_
  refine WL.nil ?_
  refine WE.then_normal ?_
  refine WC.sub (fr' := [(0, _), (1, _), (12, _)]) ?_ ⟨rfl, rfl, rfl, trivial⟩
  refine WC.cond rfl (fun q1 => ?_) (fun q1 => ?_)
  ·
    try simp only [Bool.not_eq_eq_eq_not, Bool.not_true, Bool.not_false, decide_eq_true_eq, decide_eq_false_iff_not, Int.not_lt, Int.not_le, ne_eq, Decidable.not_not, ← List.length_eq_zero_iff] at q1
    refine WC.seq ?_
    refine WC.region ?_
    refine WL.q (oq_assign rfl) rfl rfl rfl ?_
    refine WL.nil ?_
    refine WE.then_normal ?_
    refine WC.sub (fr' := [(4, _)]) ?_ ⟨rfl, trivial⟩
    refine WC.ret ?_
    refine WE.then_ret ?_
    refine WE.endR (.inl rfl) (res1 Try.results3 rfl) ?_
    -- end 0
    first | rfl | (exfalso; omega) | (exfalso; simp_all; done)
  ·
    try simp only [Bool.not_eq_eq_eq_not, Bool.not_true, Bool.not_false, decide_eq_true_eq, decide_eq_false_iff_not, Int.not_lt, Int.not_le, ne_eq, Decidable.not_not, ← List.length_eq_zero_iff] at q1
    refine WC.skip ?_
    refine WE.then_normal ?_
    refine WC.sub (fr' := [(0, _), (1, _)]) ?_ ⟨rfl, rfl, trivial⟩
    refine WC.seq ?_
    refine WC.seq ?_
    refine WC.region ?_
    refine WL.q (oq_move rfl) rfl rfl rfl ?_
    refine WL.q (oq_move rfl) rfl rfl rfl ?_
    refine WL.qc (oq_callRm (cached v A l hr q1 n hn) (.head _) call6 rfl) rfl rfl rfl ?_
    refine WL.q (oq_not rfl) rfl rfl rfl ?_
    refine WL.nil ?_
    refine WE.then_normal ?_
    refine WC.sub (fr' := [(0, _), (1, _), (16, _)]) ?_ ⟨rfl, rfl, rfl, trivial⟩
    refine WC.cond rfl (fun q3 => ?_) (fun q3 => ?_)
    ·
      try simp only [Bool.not_eq_eq_eq_not, Bool.not_true, Bool.not_false, decide_eq_true_eq, decide_eq_false_iff_not, Int.not_lt, Int.not_le, ne_eq, Decidable.not_not, ← List.length_eq_zero_iff] at q3
      refine WC.seq ?_
      refine WC.region ?_
      refine WL.qc (oq_call (L2.eAwake) call7 rfl) rfl rfl rfl ?_
      refine WL.q (oq_assign rfl) rfl rfl rfl ?_
      refine WL.nil ?_
      refine WE.then_normal ?_
      refine WC.sub (fr' := [(4, _)]) ?_ ⟨rfl, trivial⟩
      refine WC.ret ?_
      refine WE.then_ret ?_
      refine WE.endR (.inl rfl) (res1 Try.results3 rfl) ?_
      -- end 1
      first | rfl | (exfalso; omega) | (exfalso; simp_all; done)
    ·
      try simp only [Bool.not_eq_eq_eq_not, Bool.not_true, Bool.not_false, decide_eq_true_eq, decide_eq_false_iff_not, Int.not_lt, Int.not_le, ne_eq, Decidable.not_not, ← List.length_eq_zero_iff] at q3
      refine WC.skip ?_
      refine WE.then_normal ?_
      refine WC.sub (fr' := [(0, _), (1, _)]) ?_ ⟨rfl, rfl, trivial⟩
      refine WC.seq ?_
      obtain ⟨⟨hn1, hn2, hn3⟩, hel⟩ := cached_el q3
      obtain ⟨cap, rfl⟩ : ∃ cap : Nat, n = (cap : Int) := ⟨n.toNat, by omega⟩
      have hrl := sst_len cap (by omega) l l.length (Nat.le_refl _)
      rw [List.take_length] at hrl
      refine WC.region ?_
      refine WL.q (oq_move rfl) rfl rfl rfl ?_
      refine WL.q (oq_move rfl) rfl rfl rfl ?_
      refine WL.callA (sCache v A l hr hn3 hel cap (by omega)) call8 rfl rfl rfl fun v5_2 N5_2 hR5_2 hN5_2 => ?_
      obtain ⟨vt, vl, T1, U1, rfl, rfl, hrt, hru⟩ := hR5_2
      refine WL.q (oq_move rfl) rfl rfl rfl ?_
      refine WL.q (oq_extract rfl rfl) rfl rfl rfl ?_
      refine WL.q (oq_extract rfl rfl) rfl rfl rfl ?_
      refine WL.q (oq_assign rfl) rfl rfl rfl ?_
      refine WL.q (oq_assign rfl) rfl rfl rfl ?_
      refine WL.nil ?_
      refine WE.then_normal ?_
      refine WC.sub (fr' := [(0, _), (1, _), (5, _), (6, _)]) ?_ ⟨rfl, rfl, rfl, rfl, trivial⟩
      refine WC.seq ?_
      refine WC.region ?_
      refine WL.q (oq_move rfl) rfl rfl rfl ?_
      refine WL.q (oq_move rfl) rfl rfl rfl ?_
      refine WL.f1 ?_
      refine WL.callA (sAnswers v A l hr hn3 hel cap (by omega)) call9 rfl rfl rfl fun v6_2 N6_2 hR6_2 hN6_2 => ?_
      obtain ⟨vt2, vl2, T2, U2, rfl, rfl, hwt, hwl⟩ := hR6_2
      have hCf := fresh_cat hN5_2 hN6_2
      have hrt3 : RdS 1 vt ((T1 ++ U1) ++ (T2 ++ U2)) _ _ := hrt.weaken fun x hx => List.mem_append_left _ (List.mem_append_left _ hx)
      have hru3 : RdS 1 vl ((T1 ++ U1) ++ (T2 ++ U2)) _ _ := hru.weaken fun x hx => List.mem_append_left _ (List.mem_append_right _ hx)
      have hwt3 : RdS 1 vt2 ((T1 ++ U1) ++ (T2 ++ U2)) _ _ := hwt.weaken fun x hx => List.mem_append_right _ (List.mem_append_left _ hx)
      have hwl3 : RdS 1 vl2 ((T1 ++ U1) ++ (T2 ++ U2)) _ _ := hwl.weaken fun x hx => List.mem_append_right _ (List.mem_append_right _ hx)
      refine WL.q (oq_move rfl) rfl rfl rfl ?_
      refine WL.q (oq_extract rfl rfl) rfl rfl rfl ?_
      refine WL.q (oq_extract rfl rfl) rfl rfl rfl ?_
      refine WL.q (oq_assign rfl) rfl rfl rfl ?_
      refine WL.q (oq_assign rfl) rfl rfl rfl ?_
      refine WL.nil ?_
      refine WE.then_normal ?_
      refine WC.sub (fr' := [(5, _), (6, _), (7, _), (8, _)]) ?_ ⟨rfl, rfl, rfl, rfl, trivial⟩
      refine WC.seq ?_
      refine WC.seq ?_
      refine WC.region ?_
      refine WL.f2 ?_
      refine WL.cat ?_
      refine WL.q (oq_move rfl) rfl rfl rfl ?_
      refine WL.q (oq_len_rd hrt3 Try.underlying26 rfl) rfl rfl rfl ?_
      refine WL.q (oq_move rfl) rfl rfl rfl ?_
      refine WL.q (oq_len_rd hwt3 Try.underlying26 rfl) rfl rfl rfl ?_
      refine WL.q (oq_neq rfl rfl) rfl rfl rfl ?_
      refine WL.q (oq_move rfl) rfl rfl rfl ?_
      refine WL.split 35 rfl (fun s7_5 => ?_) (fun s7_5 => ?_)
      ·
        try simp only [Bool.not_eq_eq_eq_not, Bool.not_true, Bool.not_false, decide_eq_true_eq, decide_eq_false_iff_not, Int.not_lt, Int.not_le, ne_eq, Decidable.not_not, ← List.length_eq_zero_iff] at s7_5
        refine WL.skip rfl rfl rfl ?_
        refine WL.skip rfl rfl rfl ?_
        refine WL.skip rfl rfl rfl ?_
        refine WL.skip rfl rfl rfl ?_
        refine WL.skip rfl rfl rfl ?_
        refine WL.q (oq_pick_t rfl rfl) rfl rfl rfl ?_
        refine WL.nil ?_
        refine WE.then_normal ?_
        refine WC.sub (fr' := [(5, _), (6, _), (7, _), (8, _), (41, _)]) ?_ ⟨rfl, rfl, rfl, rfl, rfl, trivial⟩
        refine WC.cond_t rfl ?_
        refine WC.seq ?_
        refine WC.region ?_
        refine WL.q (oq_assign rfl) rfl rfl rfl ?_
        refine WL.nil ?_
        refine WE.then_normal ?_
        refine WC.sub (fr' := [(4, _)]) ?_ ⟨rfl, trivial⟩
        refine WC.ret ?_
        refine WE.then_ret ?_
        refine WE.forget hCf ?_
        refine WE.endR (.inl rfl) (res1 Try.results3 rfl) ?_
        -- end 2
        first | rfl | (exfalso; omega) | (exfalso; simp_all; done)
      ·
        try simp only [Bool.not_eq_eq_eq_not, Bool.not_true, Bool.not_false, decide_eq_true_eq, decide_eq_false_iff_not, Int.not_lt, Int.not_le, ne_eq, Decidable.not_not, ← List.length_eq_zero_iff] at s7_5
        refine WL.q (oq_move rfl) rfl rfl rfl ?_
        refine WL.q (oq_len_rd hru3 Try.underlying27 rfl) rfl rfl rfl ?_
        refine WL.q (oq_move rfl) rfl rfl rfl ?_
        refine WL.q (oq_len_rd hwl3 Try.underlying27 rfl) rfl rfl rfl ?_
        refine WL.q (oq_neq rfl rfl) rfl rfl rfl ?_
        refine WL.q (oq_pick_f rfl rfl) rfl rfl rfl ?_
        refine WL.nil ?_
        refine WE.then_normal ?_
        refine WC.sub (fr' := [(5, _), (6, _), (7, _), (8, _), (41, _)]) ?_ ⟨rfl, rfl, rfl, rfl, rfl, trivial⟩
        refine WC.cond rfl (fun q7 => ?_) (fun q7 => ?_)
        ·
          try simp only [Bool.not_eq_eq_eq_not, Bool.not_true, Bool.not_false, decide_eq_true_eq, decide_eq_false_iff_not, Int.not_lt, Int.not_le, ne_eq, Decidable.not_not, ← List.length_eq_zero_iff] at q7
          refine WC.seq ?_
          refine WC.region ?_
          refine WL.q (oq_assign rfl) rfl rfl rfl ?_
          refine WL.nil ?_
          refine WE.then_normal ?_
          refine WC.sub (fr' := [(4, _)]) ?_ ⟨rfl, trivial⟩
          refine WC.ret ?_
          refine WE.then_ret ?_
          refine WE.forget hCf ?_
          refine WE.endR (.inl rfl) (res1 Try.results3 rfl) ?_
          -- end 3
          first | rfl | (exfalso; omega) | (exfalso; simp_all; done)
        ·
          try simp only [Bool.not_eq_eq_eq_not, Bool.not_true, Bool.not_false, decide_eq_true_eq, decide_eq_false_iff_not, Int.not_lt, Int.not_le, ne_eq, Decidable.not_not, ← List.length_eq_zero_iff] at q7
          refine WC.skip ?_
          refine WE.then_normal ?_
          refine WC.sub (fr' := [(5, _), (6, _), (7, _), (8, _)]) ?_ ⟨rfl, rfl, rfl, rfl, trivial⟩
          refine WC.seq ?_
          refine WC.seq ?_
          refine WC.region ?_
          refine WL.q (oq_assign rfl) rfl rfl rfl ?_
          refine WL.nil ?_
          refine WE.then_normal ?_
          refine WC.sub (fr' := [(5, _), (6, _), (7, _), (8, _), (9, _)]) ?_ ⟨rfl, rfl, rfl, rfl, rfl, trivial⟩
          refine WC.block ?_
          refine WC.loop (ι := Nat) (fun (k : Nat) => [(5, vt), (6, vl), (7, vt2), (8, vl2), (9, I (k : Int))]) (fun (k : Nat) => [((T1 ++ U1) ++ (T2 ++ U2)), A]) (fun (k : Nat) => k ≤ (sst cap l).2.1.length) (fun (k : Nat) => (sst cap l).2.1.length - k) (0) ?_ ⟨rfl, rfl, rfl, rfl, rfl, trivial⟩ (List.Perm.refl _) ?_
          · try dsimp only
            show 0 ≤ _; omega
          · rintro k hp
            try dsimp only at hp
            show WC _ _ _ _ _ _ ([(5, vt), (6, vl), (7, vt2), (8, vl2), (9, I (k : Int))]) ([((T1 ++ U1) ++ (T2 ++ U2)), A])
            refine WC.seq ?_
            refine WC.seq ?_
            refine WC.region ?_
            refine WL.q (oq_move rfl) rfl rfl rfl ?_
            refine WL.q (oq_move rfl) rfl rfl rfl ?_
            refine WL.q (oq_len_rd hwt3 Try.underlying26 rfl) rfl rfl rfl ?_
            refine WL.q (oq_lss rfl rfl) rfl rfl rfl ?_
            refine WL.nil ?_
            refine WE.then_normal ?_
            refine WC.sub (fr' := [(5, _), (6, _), (7, _), (8, _), (9, _), (45, _)]) ?_ ⟨rfl, rfl, rfl, rfl, rfl, rfl, trivial⟩
            refine WC.cond rfl (fun q10 => ?_) (fun q10 => ?_)
            ·
              try simp only [Bool.not_eq_eq_eq_not, Bool.not_true, Bool.not_false, decide_eq_true_eq, decide_eq_false_iff_not, Int.not_lt, Int.not_le, ne_eq, Decidable.not_not, ← List.length_eq_zero_iff] at q10
              refine WC.skip ?_
              refine WE.then_normal ?_
              refine WC.sub (fr' := [(5, _), (6, _), (7, _), (8, _), (9, _)]) ?_ ⟨rfl, rfl, rfl, rfl, rfl, trivial⟩
              refine WC.seq ?_
              refine WC.block ?_
              refine WC.seq ?_
              refine WC.quiet (by kernel_rfl) (by kernel_rfl) ?_
              refine WQ.q (oq_move rfl) rfl rfl rfl ?_
              refine WQ.q (oq_move rfl) rfl rfl rfl ?_
              refine WQ.q (oq_ixaddr hru3 Try.underlying27 ty4 rfl rfl (by (first | omega | (simp only [List.length_cons, List.length_nil, List.length_append, List.length_drop, List.length_take]; omega)))) rfl rfl rfl ?_
              refine WQ.q (oq_load_bool hru3 (.head _) flat4 rfl (by (first | omega | (simp only [List.length_cons, List.length_nil, List.length_append, List.length_drop, List.length_take]; omega))) (by first | exact Int.toNat_natCast _ | exact rfl)) rfl rfl rfl ?_
              refine WQ.q (oq_move rfl) rfl rfl rfl ?_
              refine WQ.q (oq_move rfl) rfl rfl rfl ?_
              refine WQ.q (oq_ixaddr hwl3 Try.underlying27 ty4 rfl rfl (by (first | omega | (simp only [List.length_cons, List.length_nil, List.length_append, List.length_drop, List.length_take]; omega)))) rfl rfl rfl ?_
              refine WQ.q (oq_load_bool hwl3 (.head _) flat4 rfl (by (first | omega | (simp only [List.length_cons, List.length_nil, List.length_append, List.length_drop, List.length_take]; omega))) (by first | exact Int.toNat_natCast _ | exact rfl)) rfl rfl rfl ?_
              refine WQ.q (oq_bneq Try.underlying4 rfl rfl) rfl rfl rfl ?_
              refine WQ.q (oq_move rfl) rfl rfl rfl ?_
              refine WQ.split 57 rfl (fun s12_9 => ?_) (fun s12_9 => ?_)
              ·
                try simp only [Bool.not_eq_eq_eq_not, Bool.not_true, Bool.not_false, decide_eq_true_eq, decide_eq_false_iff_not, Int.not_lt, Int.not_le, ne_eq, Decidable.not_not, ← List.length_eq_zero_iff] at s12_9
                refine WQ.skip rfl rfl rfl ?_
                refine WQ.skip rfl rfl rfl ?_
                refine WQ.skip rfl rfl rfl ?_
                refine WQ.skip rfl rfl rfl ?_
                refine WQ.skip rfl rfl rfl ?_
                refine WQ.skip rfl rfl rfl ?_
                refine WQ.skip rfl rfl rfl ?_
                refine WQ.skip rfl rfl rfl ?_
                refine WQ.skip rfl rfl rfl ?_
                refine WQ.skip rfl rfl rfl ?_
                refine WQ.skip rfl rfl rfl ?_
                refine WQ.skip rfl rfl rfl ?_
                refine WQ.skip rfl rfl rfl ?_
                refine WQ.skip rfl rfl rfl ?_
                refine WQ.skip rfl rfl rfl ?_
                refine WQ.q (oq_pick_t rfl rfl) rfl rfl rfl ?_
                refine WQ.nil ?_
                refine WE.then_normal ?_
                refine WC.sub (fr' := [(5, _), (6, _), (7, _), (8, _), (9, _), (73, _)]) ?_ ⟨rfl, rfl, rfl, rfl, rfl, rfl, trivial⟩
                refine WC.cond_t rfl ?_
                refine WC.seq ?_
                refine WC.region ?_
                refine WL.q (oq_assign rfl) rfl rfl rfl ?_
                refine WL.nil ?_
                refine WE.then_normal ?_
                refine WC.sub (fr' := [(4, _)]) ?_ ⟨rfl, trivial⟩
                refine WC.ret ?_
                refine WE.block_ret ?_
                refine WE.then_ret ?_
                refine WE.then_ret ?_
                refine WE.block_ret ?_
                refine WE.then_ret ?_
                refine WE.forget hCf ?_
                refine WE.endR (.inl rfl) (res1 Try.results3 rfl) ?_
                -- end 4
                first | rfl | (exfalso; omega) | (exfalso; simp_all; done)
              ·
                try simp only [Bool.not_eq_eq_eq_not, Bool.not_true, Bool.not_false, decide_eq_true_eq, decide_eq_false_iff_not, Int.not_lt, Int.not_le, ne_eq, Decidable.not_not, ← List.length_eq_zero_iff] at s12_9
                refine WQ.q (oq_move rfl) rfl rfl rfl ?_
                refine WQ.q (oq_move rfl) rfl rfl rfl ?_
                refine WQ.q (oq_ixaddr hru3 Try.underlying27 ty4 rfl rfl (by (first | omega | (simp only [List.length_cons, List.length_nil, List.length_append, List.length_drop, List.length_take]; omega)))) rfl rfl rfl ?_
                refine WQ.q (oq_load_bool hru3 (.head _) flat4 rfl (by (first | omega | (simp only [List.length_cons, List.length_nil, List.length_append, List.length_drop, List.length_take]; omega))) (by first | exact Int.toNat_natCast _ | exact rfl)) rfl rfl rfl ?_
                refine WQ.q (oq_move rfl) rfl rfl rfl ?_
                refine WQ.split 62 rfl (fun s12_14 => ?_) (fun s12_14 => ?_)
                ·
                  try simp only [Bool.not_eq_eq_eq_not, Bool.not_true, Bool.not_false, decide_eq_true_eq, decide_eq_false_iff_not, Int.not_lt, Int.not_le, ne_eq, Decidable.not_not, ← List.length_eq_zero_iff] at s12_14
                  refine WQ.q (oq_move rfl) rfl rfl rfl ?_
                  refine WQ.q (oq_move rfl) rfl rfl rfl ?_
                  refine WQ.q (oq_ixaddr hrt3 Try.underlying26 ty9 rfl rfl (by (first | omega | (simp only [List.length_cons, List.length_nil, List.length_append, List.length_drop, List.length_take]; omega)))) rfl rfl rfl ?_
                  refine WQ.q (oq_load_str hrt3 (.head _) flat9 rfl (by (first | omega | (simp only [List.length_cons, List.length_nil, List.length_append, List.length_drop, List.length_take]; omega))) (by first | exact Int.toNat_natCast _ | exact rfl)) rfl rfl rfl ?_
                  refine WQ.q (oq_move rfl) rfl rfl rfl ?_
                  refine WQ.q (oq_move rfl) rfl rfl rfl ?_
                  refine WQ.q (oq_ixaddr hwt3 Try.underlying26 ty9 rfl rfl (by (first | omega | (simp only [List.length_cons, List.length_nil, List.length_append, List.length_drop, List.length_take]; omega)))) rfl rfl rfl ?_
                  refine WQ.q (oq_load_str hwt3 (.head _) flat9 rfl (by (first | omega | (simp only [List.length_cons, List.length_nil, List.length_append, List.length_drop, List.length_take]; omega))) (by first | exact Int.toNat_natCast _ | exact rfl)) rfl rfl rfl ?_
                  refine WQ.q (oq_sneq rfl rfl) rfl rfl rfl ?_
                  refine WQ.q (oq_pick_t rfl rfl) rfl rfl rfl ?_
                  refine WQ.q (oq_pick_f rfl rfl) rfl rfl rfl ?_
                  refine WQ.nil ?_
                  refine WE.then_normal ?_
                  refine WC.sub (fr' := [(5, _), (6, _), (7, _), (8, _), (9, _), (73, _)]) ?_ ⟨rfl, rfl, rfl, rfl, rfl, rfl, trivial⟩
                  refine WC.cond rfl (fun q12 => ?_) (fun q12 => ?_)
                  ·
                    try simp only [Bool.not_eq_eq_eq_not, Bool.not_true, Bool.not_false, decide_eq_true_eq, decide_eq_false_iff_not, Int.not_lt, Int.not_le, ne_eq, Decidable.not_not, ← List.length_eq_zero_iff] at q12
                    refine WC.seq ?_
                    refine WC.region ?_
                    refine WL.q (oq_assign rfl) rfl rfl rfl ?_
                    refine WL.nil ?_
                    refine WE.then_normal ?_
                    refine WC.sub (fr' := [(4, _)]) ?_ ⟨rfl, trivial⟩
                    refine WC.ret ?_
                    refine WE.block_ret ?_
                    refine WE.then_ret ?_
                    refine WE.then_ret ?_
                    refine WE.block_ret ?_
                    refine WE.then_ret ?_
                    refine WE.forget hCf ?_
                    refine WE.endR (.inl rfl) (res1 Try.results3 rfl) ?_
                    -- end 5
                    first | rfl | (exfalso; omega) | (exfalso; simp_all; done)
                  ·
                    try simp only [Bool.not_eq_eq_eq_not, Bool.not_true, Bool.not_false, decide_eq_true_eq, decide_eq_false_iff_not, Int.not_lt, Int.not_le, ne_eq, Decidable.not_not, ← List.length_eq_zero_iff] at q12
                    refine WC.skip ?_
                    refine WE.block_normal ?_
                    refine WE.then_normal ?_
                    refine WC.sub (fr' := [(5, _), (6, _), (7, _), (8, _), (9, _)]) ?_ ⟨rfl, rfl, rfl, rfl, rfl, trivial⟩
                    refine WC.region ?_
                    refine WL.q (oq_move rfl) rfl rfl rfl ?_
                    refine WL.q (oq_add rfl rfl (by rw [i64_lo, i64_hi]; (first | omega | (simp only [List.length_cons, List.length_nil, List.length_append, List.length_drop, List.length_take]; omega)))) rfl rfl rfl ?_
                    refine WL.q (oq_assign rfl) rfl rfl rfl ?_
                    refine WL.nil ?_
                    refine WE.again (k + 1) ?_ ?_ ⟨rfl, rfl, rfl, rfl, rfl, trivial⟩ (List.Perm.refl _)
                    · try dsimp only   -- again 0
                      show k + 1 ≤ _; omega
                    · (try dsimp only); omega
                ·
                  try simp only [Bool.not_eq_eq_eq_not, Bool.not_true, Bool.not_false, decide_eq_true_eq, decide_eq_false_iff_not, Int.not_lt, Int.not_le, ne_eq, Decidable.not_not, ← List.length_eq_zero_iff] at s12_14
                  refine WQ.skip rfl rfl rfl ?_
                  refine WQ.skip rfl rfl rfl ?_
                  refine WQ.skip rfl rfl rfl ?_
                  refine WQ.skip rfl rfl rfl ?_
                  refine WQ.skip rfl rfl rfl ?_
                  refine WQ.skip rfl rfl rfl ?_
                  refine WQ.skip rfl rfl rfl ?_
                  refine WQ.skip rfl rfl rfl ?_
                  refine WQ.skip rfl rfl rfl ?_
                  refine WQ.q (oq_pick_f rfl rfl) rfl rfl rfl ?_
                  refine WQ.q (oq_pick_f rfl rfl) rfl rfl rfl ?_
                  refine WQ.nil ?_
                  refine WE.then_normal ?_
                  refine WC.sub (fr' := [(5, _), (6, _), (7, _), (8, _), (9, _), (73, _)]) ?_ ⟨rfl, rfl, rfl, rfl, rfl, rfl, trivial⟩
                  refine WC.cond_f rfl ?_
                  refine WC.skip ?_
                  refine WE.block_normal ?_
                  refine WE.then_normal ?_
                  refine WC.sub (fr' := [(5, _), (6, _), (7, _), (8, _), (9, _)]) ?_ ⟨rfl, rfl, rfl, rfl, rfl, trivial⟩
                  refine WC.region ?_
                  refine WL.q (oq_move rfl) rfl rfl rfl ?_
                  refine WL.q (oq_add rfl rfl (by rw [i64_lo, i64_hi]; (first | omega | (simp only [List.length_cons, List.length_nil, List.length_append, List.length_drop, List.length_take]; omega)))) rfl rfl rfl ?_
                  refine WL.q (oq_assign rfl) rfl rfl rfl ?_
                  refine WL.nil ?_
                  refine WE.again (k + 1) ?_ ?_ ⟨rfl, rfl, rfl, rfl, rfl, trivial⟩ (List.Perm.refl _)
                  · try dsimp only   -- again 1
                    show k + 1 ≤ _; omega
                  · (try dsimp only); omega
            ·
              try simp only [Bool.not_eq_eq_eq_not, Bool.not_true, Bool.not_false, decide_eq_true_eq, decide_eq_false_iff_not, Int.not_lt, Int.not_le, ne_eq, Decidable.not_not, ← List.length_eq_zero_iff] at q10
              refine WC.exit ?_
              refine WE.then_exit ?_
              refine WE.then_exit ?_
              refine WE.block_same ?_
              refine WE.then_normal ?_
              refine WC.sub (fr' := []) ?_ trivial
              refine WC.seq ?_
              refine WC.region ?_
              refine WL.qc (oq_call (L2.eAwake) call7 rfl) rfl rfl rfl ?_
              refine WL.q (oq_assign rfl) rfl rfl rfl ?_
              refine WL.nil ?_
              refine WE.then_normal ?_
              refine WC.sub (fr' := [(4, _)]) ?_ ⟨rfl, trivial⟩
              refine WC.ret ?_
              refine WE.forget hCf ?_
              refine WE.endR (.inl rfl) (res1 Try.results3 rfl) ?_
              -- end 6
              first | rfl | (exfalso; omega) | (exfalso; simp_all; done)

end Q5
end Go.Proofs.Ytjmlifpngnbomaa
