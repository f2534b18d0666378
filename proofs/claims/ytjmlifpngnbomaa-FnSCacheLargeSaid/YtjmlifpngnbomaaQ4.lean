/- Walks of the operations of a cache. -/
import Derived.Test.YtjmlifpngnbomaaVB
import Derived.Test.YtjmlifpngnbomaaQC
import Derived.Test.YtjmlifpngnbomaaL2
import Derived.Test.YtjmlifpngnbomaaP0
namespace Go.Proofs.Ytjmlifpngnbomaa
open Go Go.RowKit V Q0 Q1 Q2 QC L2
set_option linter.unusedSimpArgs false
set_option linter.unusedVariables false
set_option maxRecDepth 10000
namespace Q4
theorem call10 : Callable Try.prog 10 := ⟨_, Try.func10, rfl, by kernel_rfl⟩
theorem call12 : Callable Try.prog 12 := ⟨_, Try.func12, rfl, by kernel_rfl⟩
theorem flat4 : Flat Try.prog 4 := ⟨_, Try.underlying4, by simp⟩
theorem flat9 : Flat Try.prog 9 := ⟨_, Try.underlying9, by simp⟩
theorem ty4 : Ty Try.prog 4 (.bool false) 1 1 := ty_of (by kernel_rfl)
theorem ty9 : Ty Try.prog 9 (S []) 1 16 := ty_of (by kernel_rfl)
theorem ty31 : Ty Try.prog 31 (.agg #[(.bool false), (S []), (S [])]) 3 40 := ty_of (by kernel_rfl)
theorem conc9 : Conc Try.prog 9 := ⟨_, Try.underlying9, by simp⟩
theorem agg31 : Agg Try.prog 31 := agg_of Try.underlying31
theorem fld31_0 : Fld Try.prog 31 0 0 4 := fld_of Try.underlying31 rfl rfl rfl ty4 (by decide)
theorem fld31_1 : Fld Try.prog 31 1 1 9 := fld_of Try.underlying31 rfl rfl rfl ty9 (by decide)
theorem fld31_2 : Fld Try.prog 31 2 2 9 := fld_of Try.underlying31 rfl rfl rfl ty9 (by decide)
/-- given.example/pub-tinwright/laws.zzFits15 -/
theorem fits15 (g : Bool) (k x : List UInt8) : Fn0 Try.prog 10 [.agg #[.bool g, S k, S x]] (.bool (sml k && sml x)) := by
  refine Fn0.enter (n := 11) Try.func10 rfl rfl fun w0 => ?_
  refine WC.sub (fr' := [(0, _)]) ?_ ⟨rfl, trivial⟩
  refine WC.seq ?_
  refine WC.region ?_
  refine WL.box rfl rfl rfl fun b0_0 hb0_0 => ?_
  refine WL.q (oq_assign rfl) rfl rfl rfl ?_
  refine WL.nil ?_
  refine WE.then_normal ?_
  refine WC.sub (fr' := [(1, _)]) ?_ ⟨rfl, trivial⟩
  refine WC.seq ?_
  refine WC.seq ?_
  refine WC.region ?_
  refine WL.q (oq_fieldAddr fld31_1 rfl) rfl rfl rfl ?_
  refine WL.q (oq_load flat9 rfl (.head _) (List.mem_singleton.2 rfl) rfl) rfl rfl rfl ?_
  refine WL.q (oq_len_s Try.underlying9 rfl) rfl rfl rfl ?_
  refine WL.q (oq_gtr rfl rfl) rfl rfl rfl ?_
  refine WL.nil ?_
  refine WE.then_normal ?_
  refine WC.sub (fr' := [(1, _), (6, _)]) ?_ ⟨rfl, rfl, trivial⟩
  refine WC.cond rfl (fun q1 => ?_) (fun q1 => ?_)
  ·
    try simp only [Bool.not_eq_eq_eq_not, Bool.not_true, Bool.not_false, decide_eq_true_eq, decide_eq_false_iff_not, Int.not_lt, Int.not_le, ne_eq, Decidable.not_not, ← List.length_eq_zero_iff] at q1
    refine WC.seq ?_
    refine WC.region ?_
    refine WL.q (oq_assign rfl) rfl rfl rfl ?_
    refine WL.nil ?_
    refine WE.then_normal ?_
    refine WC.sub (fr' := [(2, _)]) ?_ ⟨rfl, trivial⟩
    refine WC.ret ?_
    refine WE.then_ret ?_
    refine WE.lose hb0_0 ?_
    refine WE.end0 (.inl rfl) (res1 Try.results10 rfl) ?_
    -- end 0
    unfold sml; rw [decide_eq_false (show ¬ (k.length : Int) ≤ 2147483647 by omega), Bool.false_and]
  ·
    try simp only [Bool.not_eq_eq_eq_not, Bool.not_true, Bool.not_false, decide_eq_true_eq, decide_eq_false_iff_not, Int.not_lt, Int.not_le, ne_eq, Decidable.not_not, ← List.length_eq_zero_iff] at q1
    refine WC.skip ?_
    refine WE.then_normal ?_
    refine WC.sub (fr' := [(1, _)]) ?_ ⟨rfl, trivial⟩
    refine WC.seq ?_
    refine WC.seq ?_
    refine WC.region ?_
    refine WL.q (oq_fieldAddr fld31_2 rfl) rfl rfl rfl ?_
    refine WL.q (oq_load flat9 rfl (.head _) (List.mem_singleton.2 rfl) rfl) rfl rfl rfl ?_
    refine WL.q (oq_len_s Try.underlying9 rfl) rfl rfl rfl ?_
    refine WL.q (oq_gtr rfl rfl) rfl rfl rfl ?_
    refine WL.nil ?_
    refine WE.then_normal ?_
    refine WC.sub (fr' := [(10, _)]) ?_ ⟨rfl, trivial⟩
    refine WC.cond rfl (fun q3 => ?_) (fun q3 => ?_)
    ·
      try simp only [Bool.not_eq_eq_eq_not, Bool.not_true, Bool.not_false, decide_eq_true_eq, decide_eq_false_iff_not, Int.not_lt, Int.not_le, ne_eq, Decidable.not_not, ← List.length_eq_zero_iff] at q3
      refine WC.seq ?_
      refine WC.region ?_
      refine WL.q (oq_assign rfl) rfl rfl rfl ?_
      refine WL.nil ?_
      refine WE.then_normal ?_
      refine WC.sub (fr' := [(2, _)]) ?_ ⟨rfl, trivial⟩
      refine WC.ret ?_
      refine WE.then_ret ?_
      refine WE.lose hb0_0 ?_
      refine WE.end0 (.inl rfl) (res1 Try.results10 rfl) ?_
      -- end 1
      unfold sml; rw [decide_eq_false (show ¬ (x.length : Int) ≤ 2147483647 by omega), Bool.and_false]
    ·
      try simp only [Bool.not_eq_eq_eq_not, Bool.not_true, Bool.not_false, decide_eq_true_eq, decide_eq_false_iff_not, Int.not_lt, Int.not_le, ne_eq, Decidable.not_not, ← List.length_eq_zero_iff] at q3
      refine WC.skip ?_
      refine WE.then_normal ?_
      refine WC.sub (fr' := []) ?_ trivial
      refine WC.seq ?_
      refine WC.region ?_
      refine WL.q (oq_assign rfl) rfl rfl rfl ?_
      refine WL.nil ?_
      refine WE.then_normal ?_
      refine WC.sub (fr' := [(2, _)]) ?_ ⟨rfl, trivial⟩
      refine WC.ret ?_
      refine WE.lose hb0_0 ?_
      refine WE.end0 (.inl rfl) (res1 Try.results10 rfl) ?_
      -- end 2
      unfold sml; rw [decide_eq_true (show (k.length : Int) ≤ 2147483647 by omega), decide_eq_true (show (x.length : Int) ≤ 2147483647 by omega)]; rfl

/-- given.example/pub-tinwright/laws.zzFits14 -/
theorem fits14 (v : Value) (A : Hp) (l : List SO) (hr : RdS 3 v A l.length (recsV sof l)) : FnR Try.prog 5 [v] A (.bool (fitsS l)) := by
  refine FnR.enter (n := 18) Try.func5 rfl rfl fun w0 => ?_
  refine WC.sub (fr' := [(0, _)]) ?_ ⟨rfl, trivial⟩
  refine WC.seq ?_
  refine WC.region ?_
  refine WL.q (oq_assign rfl) rfl rfl rfl ?_
  refine WL.nil ?_
  refine WE.then_normal ?_
  refine WC.sub (fr' := [(0, _)]) ?_ ⟨rfl, trivial⟩
  refine WC.seq ?_
  refine WC.seq ?_
  refine WC.region ?_
  refine WL.q (oq_move rfl) rfl rfl rfl ?_
  refine WL.q (oq_len_rd hr Try.underlying22 rfl) rfl rfl rfl ?_
  refine WL.q (oq_gtr rfl rfl) rfl rfl rfl ?_
  refine WL.nil ?_
  refine WE.then_normal ?_
  refine WC.sub (fr' := [(0, _), (7, _)]) ?_ ⟨rfl, rfl, trivial⟩
  refine WC.cond rfl (fun q1 => ?_) (fun q1 => ?_)
  ·
    try simp only [Bool.not_eq_eq_eq_not, Bool.not_true, Bool.not_false, decide_eq_true_eq, decide_eq_false_iff_not, Int.not_lt, Int.not_le, ne_eq, Decidable.not_not, ← List.length_eq_zero_iff] at q1
    refine WC.seq ?_
    refine WC.region ?_
    refine WL.q (oq_assign rfl) rfl rfl rfl ?_
    refine WL.nil ?_
    refine WE.then_normal ?_
    refine WC.sub (fr' := [(2, _)]) ?_ ⟨rfl, trivial⟩
    refine WC.ret ?_
    refine WE.then_ret ?_
    refine WE.endR (.inl rfl) (res1 Try.results5 rfl) ?_
    -- end 0
    unfold fitsS; rw [decide_eq_false (by omega)]; rfl
  ·
    try simp only [Bool.not_eq_eq_eq_not, Bool.not_true, Bool.not_false, decide_eq_true_eq, decide_eq_false_iff_not, Int.not_lt, Int.not_le, ne_eq, Decidable.not_not, ← List.length_eq_zero_iff] at q1
    refine WC.skip ?_
    refine WE.then_normal ?_
    refine WC.sub (fr' := [(0, _)]) ?_ ⟨rfl, trivial⟩
    refine WC.seq ?_
    refine WC.seq ?_
    refine WC.region ?_
    refine WL.q (oq_move rfl) rfl rfl rfl ?_
    refine WL.q (oq_len_rd hr Try.underlying22 rfl) rfl rfl rfl ?_
    refine WL.q (oq_move rfl) rfl rfl rfl ?_
    refine WL.nil ?_
    refine WE.then_normal ?_
    refine WC.sub (fr' := [(8, _), (9, _), (10, _)]) ?_ ⟨rfl, rfl, rfl, trivial⟩
    refine WC.block ?_
    refine WC.loop (ι := Nat) (fun (i : Nat) => [(8, v), (9, I (l.length : Int)), (10, I (i : Int))]) (fun (i : Nat) => [A]) (fun (i : Nat) => i ≤ l.length ∧ l.all smlP = (l.drop i).all smlP) (fun (i : Nat) => l.length - i) (0) ?_ ⟨rfl, rfl, rfl, trivial⟩ (List.Perm.refl _) ?_
    · try dsimp only
      exact ⟨by omega, rfl⟩
    · rintro i hp
      try dsimp only at hp
      obtain ⟨hi, hf⟩ := hp
      show WC _ _ _ _ _ _ ([(8, v), (9, I (l.length : Int)), (10, I (i : Int))]) ([A])
      refine WC.seq ?_
      refine WC.region ?_
      refine WL.q (oq_lss rfl rfl) rfl rfl rfl ?_
      refine WL.nil ?_
      refine WE.then_normal ?_
      refine WC.sub (fr' := [(8, _), (9, _), (10, _), (11, _)]) ?_ ⟨rfl, rfl, rfl, rfl, trivial⟩
      refine WC.seq ?_
      refine WC.cond rfl (fun q4 => ?_) (fun q4 => ?_)
      ·
        try simp only [Bool.not_eq_eq_eq_not, Bool.not_true, Bool.not_false, decide_eq_true_eq, decide_eq_false_iff_not, Int.not_lt, Int.not_le, ne_eq, Decidable.not_not, ← List.length_eq_zero_iff] at q4
        refine WC.skip ?_
        refine WE.then_normal ?_
        refine WC.sub (fr' := [(8, _), (9, _), (10, _)]) ?_ ⟨rfl, rfl, rfl, trivial⟩
        refine WC.seq ?_
        refine WC.block ?_
        refine WC.seq ?_
        refine WC.region ?_
        refine WL.q (oq_ixaddr hr Try.underlying22 ty31 rfl rfl (by (first | omega | (simp only [List.length_cons, List.length_nil, List.length_append, List.length_drop, List.length_take]; omega)))) rfl rfl rfl ?_
        refine WL.q (oq_loadEl (f := sof) SO0 [_, _, _] (fun _ => rfl) agg31 ty31 hr (.head _) rfl (by (first | omega | (simp only [List.length_cons, List.length_nil, List.length_append, List.length_drop, List.length_take]; omega))) (by first | exact Int.toNat_natCast _ | exact rfl) rfl) rfl rfl rfl ?_
        refine WL.alloc ty31 rfl rfl fun b5_2 hb5_2 => ?_
        refine WL.storeS #[_, _, _] ty31 rfl rfl rfl rfl (Nat.le_of_ble_eq_true rfl) rfl rfl ?_
        refine WL.nil ?_
        refine WE.then_normal ?_
        refine WC.sub (fr' := [(4, _), (8, _), (9, _), (10, _)]) ?_ ⟨rfl, rfl, rfl, rfl, trivial⟩
        refine WC.seq ?_
        refine WC.region ?_
        refine WL.q (oq_loadS [_, _, _] agg31 ty31 rfl (.head _) (List.mem_singleton.2 rfl) rfl rfl) rfl rfl rfl ?_
        refine WL.qc (oq_call (fits15 _ _ _) call10 rfl) rfl rfl rfl ?_
        refine WL.q (oq_not rfl) rfl rfl rfl ?_
        refine WL.nil ?_
        refine WE.then_normal ?_
        refine WC.sub (fr' := [(8, _), (9, _), (10, _), (16, _)]) ?_ ⟨rfl, rfl, rfl, rfl, trivial⟩
        refine WC.cond rfl (fun q6 => ?_) (fun q6 => ?_)
        ·
          try simp only [Bool.not_eq_eq_eq_not, Bool.not_true, Bool.not_false, decide_eq_true_eq, decide_eq_false_iff_not, Int.not_lt, Int.not_le, ne_eq, Decidable.not_not, ← List.length_eq_zero_iff] at q6
          refine WC.seq ?_
          refine WC.region ?_
          refine WL.q (oq_assign rfl) rfl rfl rfl ?_
          refine WL.nil ?_
          refine WE.then_normal ?_
          refine WC.sub (fr' := [(2, _)]) ?_ ⟨rfl, trivial⟩
          refine WC.ret ?_
          refine WE.block_ret ?_
          refine WE.then_ret ?_
          refine WE.then_ret ?_
          refine WE.block_ret ?_
          refine WE.then_ret ?_
          refine WE.lose hb5_2 ?_
          refine WE.endR (.inl rfl) (res1 Try.results5 rfl) ?_
          -- end 1
          unfold fitsS; rw [hf, all_get l i SO0 (by omega), show smlP (l.getD i SO0) = false from q6, Bool.false_and, Bool.and_false]
        ·
          try simp only [Bool.not_eq_eq_eq_not, Bool.not_true, Bool.not_false, decide_eq_true_eq, decide_eq_false_iff_not, Int.not_lt, Int.not_le, ne_eq, Decidable.not_not, ← List.length_eq_zero_iff] at q6
          refine WC.skip ?_
          refine WE.block_normal ?_
          refine WE.then_normal ?_
          refine WC.sub (fr' := [(8, _), (9, _), (10, _)]) ?_ ⟨rfl, rfl, rfl, trivial⟩
          refine WC.region ?_
          refine WL.q (oq_add rfl rfl (by rw [i64_lo, i64_hi]; (first | omega | (simp only [List.length_cons, List.length_nil, List.length_append, List.length_drop, List.length_take]; omega)))) rfl rfl rfl ?_
          refine WL.q (oq_move rfl) rfl rfl rfl ?_
          refine WL.nil ?_
          refine WE.lose hb5_2 ?_
          refine WE.again (i + 1) ?_ ?_ ⟨rfl, rfl, rfl, trivial⟩ (List.Perm.refl _)
          · try dsimp only   -- again 0
            exact ⟨by omega, by rw [hf, all_get l i SO0 (by omega), show smlP (l.getD i SO0) = true from q6, Bool.true_and]⟩
          · (try dsimp only); omega
      ·
        try simp only [Bool.not_eq_eq_eq_not, Bool.not_true, Bool.not_false, decide_eq_true_eq, decide_eq_false_iff_not, Int.not_lt, Int.not_le, ne_eq, Decidable.not_not, ← List.length_eq_zero_iff] at q4
        refine WC.exit ?_
        refine WE.then_exit ?_
        refine WE.then_exit ?_
        refine WE.block_same ?_
        refine WE.then_normal ?_
        refine WC.sub (fr' := []) ?_ trivial
        refine WC.seq ?_
        refine WC.region ?_
        refine WL.q (oq_assign rfl) rfl rfl rfl ?_
        refine WL.nil ?_
        refine WE.then_normal ?_
        refine WC.sub (fr' := [(2, _)]) ?_ ⟨rfl, trivial⟩
        refine WC.ret ?_
        refine WE.endR (.inl rfl) (res1 Try.results5 rfl) ?_
        -- end 2
        unfold fitsS; rw [hf, List.drop_eq_nil_of_le (by omega), decide_eq_true (by omega)]; rfl

/-- given.example/pub-tinwright/laws.sCached -/
theorem cached (v : Value) (A : Hp) (l : List SO) (hr : RdS 3 v A l.length (recsV sof l)) (hf : fitsS l = true) (n : Int) (hn : -9223372036854775808 ≤ n ∧ n ≤ 9223372036854775807) : FnR Try.prog 6 [I n, v] A (.bool (cachedS n l)) := by
  have hfl := fitsS_len hf
  refine FnR.enter (n := 37) Try.func6 rfl rfl fun w0 => ?_
  refine WC.sub (fr' := [(0, _), (1, _)]) ?_ ⟨rfl, rfl, trivial⟩
  refine WC.seq ?_
  refine WC.region ?_
  refine WL.q (oq_assign rfl) rfl rfl rfl ?_
  refine WL.nil ?_
  refine WE.then_normal ?_
  refine WC.sub (fr' := [(0, _), (1, _)]) ?_ ⟨rfl, rfl, trivial⟩
  refine WC.seq ?_
  refine WC.seq ?_
  refine WC.region ?_
  refine WL.q (oq_assign rfl) rfl rfl rfl ?_
  refine WL.nil ?_
  refine WE.then_normal ?_
  refine WC.sub (fr' := [(0, _), (1, _), (5, _)]) ?_ ⟨rfl, rfl, rfl, trivial⟩
  refine WC.block ?_
  refine WC.loop (ι := Nat) (fun (i : Nat) => [(0, I n), (1, v), (5, I (i : Int))]) (fun (i : Nat) => [A]) (fun (i : Nat) => i ≤ l.length ∧ l.all okS = (l.drop i).all okS) (fun (i : Nat) => l.length - i) (0) ?_ ⟨rfl, rfl, rfl, trivial⟩ (List.Perm.refl _) ?_
  · try dsimp only
    exact ⟨by omega, rfl⟩
  · rintro i hp
    try dsimp only at hp
    obtain ⟨hi, hs⟩ := hp
    show WC _ _ _ _ _ _ ([(0, I n), (1, v), (5, I (i : Int))]) ([A])
    refine WC.seq ?_
    refine WC.seq ?_
    refine WC.region ?_
    refine WL.q (oq_move rfl) rfl rfl rfl ?_
    refine WL.q (oq_move rfl) rfl rfl rfl ?_
    refine WL.q (oq_len_rd hr Try.underlying22 rfl) rfl rfl rfl ?_
    refine WL.q (oq_lss rfl rfl) rfl rfl rfl ?_
    refine WL.nil ?_
    refine WE.then_normal ?_
    refine WC.sub (fr' := [(0, _), (1, _), (5, _), (9, _)]) ?_ ⟨rfl, rfl, rfl, rfl, trivial⟩
    refine WC.cond rfl (fun q2 => ?_) (fun q2 => ?_)
    ·
      try simp only [Bool.not_eq_eq_eq_not, Bool.not_true, Bool.not_false, decide_eq_true_eq, decide_eq_false_iff_not, Int.not_lt, Int.not_le, ne_eq, Decidable.not_not, ← List.length_eq_zero_iff] at q2
      refine WC.skip ?_
      refine WE.then_normal ?_
      refine WC.sub (fr' := [(0, _), (1, _), (5, _)]) ?_ ⟨rfl, rfl, rfl, trivial⟩
      refine WC.seq ?_
      refine WC.block ?_
      refine WC.seq ?_
      have hfe := fitsS_el hf i (by omega)
      refine WC.quiet (by kernel_rfl) (by kernel_rfl) ?_
      refine WQ.q (oq_move rfl) rfl rfl rfl ?_
      refine WQ.q (oq_move rfl) rfl rfl rfl ?_
      refine WQ.q (oq_ixaddr hr Try.underlying22 ty31 rfl rfl (by (first | omega | (simp only [List.length_cons, List.length_nil, List.length_append, List.length_drop, List.length_take]; omega)))) rfl rfl rfl ?_
      refine WQ.q (oq_fldEl fld31_1 hr rfl (by (first | omega | (simp only [List.length_cons, List.length_nil, List.length_append, List.length_drop, List.length_take]; omega)))) rfl rfl rfl ?_
      refine WQ.q (oq_loadF (f := sof) SO0 (fun _ => rfl) flat9 hr (.head _) rfl (by (first | omega | (simp only [List.length_cons, List.length_nil, List.length_append, List.length_drop, List.length_take]; omega))) (by first | exact Int.toNat_natCast _ | exact rfl) (by decide) rfl) rfl rfl rfl ?_
      refine WQ.q (oq_len_s Try.underlying9 rfl) rfl rfl rfl ?_
      refine WQ.q (oq_move rfl) rfl rfl rfl ?_
      refine WQ.q (oq_move rfl) rfl rfl rfl ?_
      refine WQ.q (oq_ixaddr hr Try.underlying22 ty31 rfl rfl (by (first | omega | (simp only [List.length_cons, List.length_nil, List.length_append, List.length_drop, List.length_take]; omega)))) rfl rfl rfl ?_
      refine WQ.q (oq_fldEl fld31_2 hr rfl (by (first | omega | (simp only [List.length_cons, List.length_nil, List.length_append, List.length_drop, List.length_take]; omega)))) rfl rfl rfl ?_
      refine WQ.q (oq_loadF (f := sof) SO0 (fun _ => rfl) flat9 hr (.head _) rfl (by (first | omega | (simp only [List.length_cons, List.length_nil, List.length_append, List.length_drop, List.length_take]; omega))) (by first | exact Int.toNat_natCast _ | exact rfl) (by decide) rfl) rfl rfl rfl ?_
      refine WQ.q (oq_len_s Try.underlying9 rfl) rfl rfl rfl ?_
      refine WQ.q (oq_add rfl rfl (by rw [i64_lo, i64_hi]; (first | omega | (simp only [List.length_cons, List.length_nil, List.length_append, List.length_drop, List.length_take]; omega)))) rfl rfl rfl ?_
      refine WQ.q (oq_gtr rfl rfl) rfl rfl rfl ?_
      refine WQ.nil ?_
      refine WE.then_normal ?_
      refine WC.sub (fr' := [(0, _), (1, _), (5, _), (25, _)]) ?_ ⟨rfl, rfl, rfl, rfl, trivial⟩
      refine WC.cond rfl (fun q4 => ?_) (fun q4 => ?_)
      ·
        try simp only [Bool.not_eq_eq_eq_not, Bool.not_true, Bool.not_false, decide_eq_true_eq, decide_eq_false_iff_not, Int.not_lt, Int.not_le, ne_eq, Decidable.not_not, ← List.length_eq_zero_iff] at q4
        refine WC.seq ?_
        refine WC.region ?_
        refine WL.q (oq_assign rfl) rfl rfl rfl ?_
        refine WL.nil ?_
        refine WE.then_normal ?_
        refine WC.sub (fr' := [(4, _)]) ?_ ⟨rfl, trivial⟩
        refine WC.ret ?_
        refine WE.block_ret ?_
        refine WE.then_ret ?_
        refine WE.then_ret ?_
        refine WE.block_ret ?_
        refine WE.then_ret ?_
        refine WE.endR (.inl rfl) (res1 Try.results6 rfl) ?_
        -- end 0
        unfold cachedS; rw [hs, all_get l i SO0 (by omega), show okS (l.getD i SO0) = false from decide_eq_false (by omega), Bool.false_and, Bool.false_and]
      ·
        try simp only [Bool.not_eq_eq_eq_not, Bool.not_true, Bool.not_false, decide_eq_true_eq, decide_eq_false_iff_not, Int.not_lt, Int.not_le, ne_eq, Decidable.not_not, ← List.length_eq_zero_iff] at q4
        refine WC.skip ?_
        refine WE.block_normal ?_
        refine WE.then_normal ?_
        refine WC.sub (fr' := [(0, _), (1, _), (5, _)]) ?_ ⟨rfl, rfl, rfl, trivial⟩
        refine WC.region ?_
        refine WL.q (oq_move rfl) rfl rfl rfl ?_
        refine WL.q (oq_add rfl rfl (by rw [i64_lo, i64_hi]; (first | omega | (simp only [List.length_cons, List.length_nil, List.length_append, List.length_drop, List.length_take]; omega)))) rfl rfl rfl ?_
        refine WL.q (oq_assign rfl) rfl rfl rfl ?_
        refine WL.nil ?_
        refine WE.again (i + 1) ?_ ?_ ⟨rfl, rfl, rfl, trivial⟩ (List.Perm.refl _)
        · try dsimp only   -- again 0
          exact ⟨by omega, by rw [hs, all_get l i SO0 (by omega), show okS (l.getD i SO0) = true from decide_eq_true (by omega), Bool.true_and]⟩
        · (try dsimp only); omega
    ·
      try simp only [Bool.not_eq_eq_eq_not, Bool.not_true, Bool.not_false, decide_eq_true_eq, decide_eq_false_iff_not, Int.not_lt, Int.not_le, ne_eq, Decidable.not_not, ← List.length_eq_zero_iff] at q2
      refine WC.exit ?_
      refine WE.then_exit ?_
      refine WE.then_exit ?_
      refine WE.block_same ?_
      refine WE.then_normal ?_
      refine WC.sub (fr' := [(0, _), (1, _)]) ?_ ⟨rfl, rfl, trivial⟩
      refine WC.seq ?_
      refine WC.region ?_
      refine WL.q (oq_move rfl) rfl rfl rfl ?_
      refine WL.q (oq_geq rfl rfl) rfl rfl rfl ?_
      refine WL.q (oq_move rfl) rfl rfl rfl ?_
      refine WL.split 28 rfl (fun s6_2 => ?_) (fun s6_2 => ?_)
      ·
        try simp only [Bool.not_eq_eq_eq_not, Bool.not_true, Bool.not_false, decide_eq_true_eq, decide_eq_false_iff_not, Int.not_lt, Int.not_le, ne_eq, Decidable.not_not, ← List.length_eq_zero_iff] at s6_2
        refine WL.q (oq_move rfl) rfl rfl rfl ?_
        refine WL.q (oq_leq rfl rfl) rfl rfl rfl ?_
        refine WL.q (oq_pick_t rfl rfl) rfl rfl rfl ?_
        refine WL.q (oq_move rfl) rfl rfl rfl ?_
        refine WL.split 32 rfl (fun s6_6 => ?_) (fun s6_6 => ?_)
        ·
          try simp only [Bool.not_eq_eq_eq_not, Bool.not_true, Bool.not_false, decide_eq_true_eq, decide_eq_false_iff_not, Int.not_lt, Int.not_le, ne_eq, Decidable.not_not, ← List.length_eq_zero_iff] at s6_6
          refine WL.q (oq_move rfl) rfl rfl rfl ?_
          refine WL.q (oq_len_rd hr Try.underlying22 rfl) rfl rfl rfl ?_
          refine WL.q (oq_leq rfl rfl) rfl rfl rfl ?_
          refine WL.q (oq_pick_t rfl rfl) rfl rfl rfl ?_
          refine WL.q (oq_assign rfl) rfl rfl rfl ?_
          refine WL.nil ?_
          refine WE.then_normal ?_
          refine WC.sub (fr' := [(4, _)]) ?_ ⟨rfl, trivial⟩
          refine WC.ret ?_
          refine WE.endR (.inl rfl) (res1 Try.results6 rfl) ?_
          -- end 1
          unfold cachedS; rw [hs, List.drop_eq_nil_of_le (by omega)]
          congr 1
          rw [List.all_nil, Bool.true_and]
          first | (symm; rw [decide_eq_false_iff_not]; omega) | (symm; rw [decide_eq_true_iff]; omega) | (apply decide_eq_decide.2; omega)
        ·
          try simp only [Bool.not_eq_eq_eq_not, Bool.not_true, Bool.not_false, decide_eq_true_eq, decide_eq_false_iff_not, Int.not_lt, Int.not_le, ne_eq, Decidable.not_not, ← List.length_eq_zero_iff] at s6_6
          refine WL.skip rfl rfl rfl ?_
          refine WL.skip rfl rfl rfl ?_
          refine WL.skip rfl rfl rfl ?_
          refine WL.q (oq_pick_f rfl rfl) rfl rfl rfl ?_
          refine WL.q (oq_assign rfl) rfl rfl rfl ?_
          refine WL.nil ?_
          refine WE.then_normal ?_
          refine WC.sub (fr' := [(4, _)]) ?_ ⟨rfl, trivial⟩
          refine WC.ret ?_
          refine WE.endR (.inl rfl) (res1 Try.results6 rfl) ?_
          -- end 2
          unfold cachedS; rw [hs, List.drop_eq_nil_of_le (by omega)]
          congr 1
          rw [List.all_nil, Bool.true_and]
          first | (symm; rw [decide_eq_false_iff_not]; omega) | (symm; rw [decide_eq_true_iff]; omega) | (apply decide_eq_decide.2; omega)
      ·
        try simp only [Bool.not_eq_eq_eq_not, Bool.not_true, Bool.not_false, decide_eq_true_eq, decide_eq_false_iff_not, Int.not_lt, Int.not_le, ne_eq, Decidable.not_not, ← List.length_eq_zero_iff] at s6_2
        refine WL.skip rfl rfl rfl ?_
        refine WL.skip rfl rfl rfl ?_
        refine WL.q (oq_pick_f rfl rfl) rfl rfl rfl ?_
        refine WL.q (oq_move rfl) rfl rfl rfl ?_
        refine WL.skip rfl rfl rfl ?_
        refine WL.skip rfl rfl rfl ?_
        refine WL.skip rfl rfl rfl ?_
        refine WL.q (oq_pick_f rfl rfl) rfl rfl rfl ?_
        refine WL.q (oq_assign rfl) rfl rfl rfl ?_
        refine WL.nil ?_
        refine WE.then_normal ?_
        refine WC.sub (fr' := [(4, _)]) ?_ ⟨rfl, trivial⟩
        refine WC.ret ?_
        refine WE.endR (.inl rfl) (res1 Try.results6 rfl) ?_
        -- end 3
        unfold cachedS; rw [hs, List.drop_eq_nil_of_le (by omega)]
        congr 1
        rw [List.all_nil, Bool.true_and]
        first | (symm; rw [decide_eq_false_iff_not]; omega) | (symm; rw [decide_eq_true_iff]; omega) | (apply decide_eq_decide.2; omega)

/-- given.example/pub-tinwright/impl.SCache -/
theorem sCache (v : Value) (A : Hp) (l : List SO) (hr : RdS 3 v A l.length (recsV sof l)) (hl : l.length ≤ 200) (hb : ∀ i, i < l.length → (l.getD i SO0).k.length + (l.getD i SO0).v.length ≤ 200) (cap : Nat) (hc : 1 ≤ cap ∧ cap ≤ 100) : FnA Try.prog 8 [I (cap : Int), v] A (fun r N => ∃ vt vl T U, r = .tuple #[vt, vl] ∧ N = T ++ U ∧ RdS 1 vt T (sst cap l).2.1.length (strsV (sst cap l).2.1) ∧ RdS 1 vl U (sst cap l).2.2.length (boolsV (sst cap l).2.2)) := by
  refine FnA.enter (n := 60) Try.func8 rfl rfl fun w0 => ?_
  refine WC.sub (fr' := [(0, _), (1, _)]) ?_ ⟨rfl, rfl, trivial⟩
  refine WC.seq ?_
  refine WC.region ?_
  refine WL.q (oq_assign rfl) rfl rfl rfl ?_
  refine WL.q (oq_assign rfl) rfl rfl rfl ?_
  refine WL.nil ?_
  refine WE.then_normal ?_
  refine WC.sub (fr' := [(0, _), (1, _)]) ?_ ⟨rfl, rfl, trivial⟩
  refine WC.seq ?_
  refine WC.region ?_
  refine WL.q (oq_move rfl) rfl rfl rfl ?_
  refine WL.q (oq_max ((cap : Int)) rfl rfl (by omega)) rfl rfl rfl ?_
  refine WL.q (oq_min ((cap : Int)) rfl rfl (by omega)) rfl rfl rfl ?_
  refine WL.callW0 (cnewC _ cap (by omega) (by omega)) call12 rfl rfl rfl fun v1_3 Hs1_3 hR1_3 => ?_
  obtain ⟨lb, mb, bl, C0, rfl, rfl, hC0⟩ := hR1_3
  refine WL.to1 ?_
  refine WL.q (oq_assign rfl) rfl rfl rfl ?_
  refine WL.nil ?_
  refine WE.then_normal ?_
  refine WC.sub (fr' := [(1, _), (6, _)]) ?_ ⟨rfl, rfl, trivial⟩
  refine WC.seq ?_
  refine WC.add0 ?_
  refine WC.region ?_
  refine WL.q (oq_assign rfl) rfl rfl rfl ?_
  refine WL.nil ?_
  refine WE.then_normal ?_
  refine WC.sub (fr' := [(1, _), (6, _), (7, _)]) ?_ ⟨rfl, rfl, rfl, trivial⟩
  refine WC.seq ?_
  refine WC.add0 ?_
  refine WC.region ?_
  refine WL.q (oq_assign rfl) rfl rfl rfl ?_
  refine WL.nil ?_
  refine WE.then_normal ?_
  refine WC.sub (fr' := [(1, _), (6, _), (7, _), (8, _)]) ?_ ⟨rfl, rfl, rfl, rfl, trivial⟩
  refine WC.seq ?_
  refine WC.seq ?_
  refine WC.region ?_
  refine WL.q (oq_move rfl) rfl rfl rfl ?_
  refine WL.q (oq_len_rd hr Try.underlying22 rfl) rfl rfl rfl ?_
  refine WL.q (oq_move rfl) rfl rfl rfl ?_
  refine WL.nil ?_
  refine WE.then_normal ?_
  refine WC.sub (fr' := [(6, _), (7, _), (8, _), (19, _), (20, _), (21, _)]) ?_ ⟨rfl, rfl, rfl, rfl, rfl, rfl, trivial⟩
  refine WC.block ?_
  refine WC.f3 ?_
  refine WC.f1 ?_
  refine WC.f2 ?_
  refine WC.f3 ?_
  refine WC.loop (ι := Nat × KV × (List (List UInt8)) × (List Bool) × Value × Value × Hp × Hp × Hp) (fun i_ => (fun (i : Nat) (L : KV) (tx : List (List UInt8)) (bs : List Bool) (vt : Value) (vl : Value) (T : Hp) (U : Hp) (C : Hp) => [(6, .iface 41 (Pt lb 0)), (7, vt), (8, vl), (19, v), (20, I (l.length : Int)), (21, I (i : Int))]) i_.1 i_.2.1 i_.2.2.1 i_.2.2.2.1 i_.2.2.2.2.1 i_.2.2.2.2.2.1 i_.2.2.2.2.2.2.1 i_.2.2.2.2.2.2.2.1 i_.2.2.2.2.2.2.2.2) (fun i_ => (fun (i : Nat) (L : KV) (tx : List (List UInt8)) (bs : List Bool) (vt : Value) (vl : Value) (T : Hp) (U : Hp) (C : Hp) => [C, T, U, A]) i_.1 i_.2.1 i_.2.2.1 i_.2.2.2.1 i_.2.2.2.2.1 i_.2.2.2.2.2.1 i_.2.2.2.2.2.2.1 i_.2.2.2.2.2.2.2.1 i_.2.2.2.2.2.2.2.2) (fun i_ => (fun (i : Nat) (L : KV) (tx : List (List UInt8)) (bs : List Bool) (vt : Value) (vl : Value) (T : Hp) (U : Hp) (C : Hp) => i ≤ l.length ∧ sst cap (l.take i) = (L, tx, bs) ∧ CS w0.heap.size lb mb bl cap L C ∧ OwS w0.heap.size 9 1 vt T tx.length (strsV tx) ∧ OwS w0.heap.size 4 1 vl U bs.length (boolsV bs)) i_.1 i_.2.1 i_.2.2.1 i_.2.2.2.1 i_.2.2.2.2.1 i_.2.2.2.2.2.1 i_.2.2.2.2.2.2.1 i_.2.2.2.2.2.2.2.1 i_.2.2.2.2.2.2.2.2) (fun i_ => (fun (i : Nat) (L : KV) (tx : List (List UInt8)) (bs : List Bool) (vt : Value) (vl : Value) (T : Hp) (U : Hp) (C : Hp) => l.length - i) i_.1 i_.2.1 i_.2.2.1 i_.2.2.2.1 i_.2.2.2.2.1 i_.2.2.2.2.2.1 i_.2.2.2.2.2.2.1 i_.2.2.2.2.2.2.2.1 i_.2.2.2.2.2.2.2.2) ((0, [], [], [], _, _, _, _, _)) ?_ ⟨rfl, rfl, rfl, rfl, rfl, rfl, trivial⟩ (List.Perm.refl _) ?_
  · try dsimp only
    exact ⟨by omega, rfl, hC0, OwS.nil _ _ _, OwS.nil _ _ _⟩
  · rintro ⟨i, L, tx, bs, vt, vl, T, U, C⟩ hp
    try dsimp only at hp
    obtain ⟨hi, hst, hCS, hot, hou⟩ := hp
    show WC _ _ _ _ _ _ ([(6, .iface 41 (Pt lb 0)), (7, vt), (8, vl), (19, v), (20, I (l.length : Int)), (21, I (i : Int))]) ([C, T, U, A])
    have hrl := sst_len cap hc.1 l i hi
    rw [hst] at hrl
    obtain ⟨hrl1, hrl2, hrl3⟩ := hrl
    dsimp only at hrl1 hrl2 hrl3
    refine WC.seq ?_
    refine WC.region ?_
    refine WL.q (oq_lss rfl rfl) rfl rfl rfl ?_
    refine WL.nil ?_
    refine WE.then_normal ?_
    refine WC.sub (fr' := [(6, _), (7, _), (8, _), (19, _), (20, _), (21, _), (22, _)]) ?_ ⟨rfl, rfl, rfl, rfl, rfl, rfl, rfl, trivial⟩
    refine WC.seq ?_
    refine WC.cond rfl (fun q5 => ?_) (fun q5 => ?_)
    ·
      try simp only [Bool.not_eq_eq_eq_not, Bool.not_true, Bool.not_false, decide_eq_true_eq, decide_eq_false_iff_not, Int.not_lt, Int.not_le, ne_eq, Decidable.not_not, ← List.length_eq_zero_iff] at q5
      refine WC.skip ?_
      refine WE.then_normal ?_
      refine WC.sub (fr' := [(6, _), (7, _), (8, _), (19, _), (20, _), (21, _)]) ?_ ⟨rfl, rfl, rfl, rfl, rfl, rfl, trivial⟩
      refine WC.seq ?_
      refine WC.block ?_
      refine WC.seq ?_
      refine WC.region ?_
      refine WL.q (oq_ixaddr hr Try.underlying22 ty31 rfl rfl (by (first | omega | (simp only [List.length_cons, List.length_nil, List.length_append, List.length_drop, List.length_take]; omega)))) rfl rfl rfl ?_
      refine WL.q (oq_loadEl (f := sof) SO0 [_, _, _] (fun _ => rfl) agg31 ty31 hr (.tail _ (.tail _ (.tail _ (.head _)))) rfl (by (first | omega | (simp only [List.length_cons, List.length_nil, List.length_append, List.length_drop, List.length_take]; omega))) (by first | exact Int.toNat_natCast _ | exact rfl) rfl) rfl rfl rfl ?_
      refine WL.alloc ty31 rfl rfl fun b6_2 hb6_2 => ?_
      refine WL.storeS #[_, _, _] ty31 rfl rfl rfl rfl (Nat.le_of_ble_eq_true rfl) rfl rfl ?_
      refine WL.nil ?_
      refine WE.then_normal ?_
      refine WC.sub (fr' := [(6, _), (7, _), (8, _), (10, _), (19, _), (20, _), (21, _)]) ?_ ⟨rfl, rfl, rfl, rfl, rfl, rfl, rfl, trivial⟩
      refine WC.seq ?_
      refine WC.seq ?_
      refine WC.region ?_
      refine WL.q (oq_fieldAddr fld31_0 rfl) rfl rfl rfl ?_
      refine WL.q (oq_load flat4 rfl (.head _) (List.mem_singleton.2 rfl) rfl) rfl rfl rfl ?_
      refine WL.q (oq_not rfl) rfl rfl rfl ?_
      refine WL.nil ?_
      refine WE.then_normal ?_
      refine WC.sub (fr' := [(6, _), (7, _), (8, _), (10, _), (19, _), (20, _), (21, _), (27, _)]) ?_ ⟨rfl, rfl, rfl, rfl, rfl, rfl, rfl, rfl, trivial⟩
      refine WC.cond rfl (fun q7 => ?_) (fun q7 => ?_)
      ·
        try simp only [Bool.not_eq_eq_eq_not, Bool.not_true, Bool.not_false, decide_eq_true_eq, decide_eq_false_iff_not, Int.not_lt, Int.not_le, ne_eq, Decidable.not_not, ← List.length_eq_zero_iff] at q7
        refine WC.seq ?_
        refine WC.region ?_
        refine WL.q (oq_move rfl) rfl rfl rfl ?_
        refine WL.q (oq_fieldAddr fld31_1 rfl) rfl rfl rfl ?_
        refine WL.q (oq_load flat9 rfl (.head _) (List.mem_singleton.2 rfl) rfl) rfl rfl rfl ?_
        refine WL.q (oq_makeI conc9 rfl) rfl rfl rfl ?_
        refine WL.q (oq_fieldAddr fld31_2 rfl) rfl rfl rfl ?_
        refine WL.q (oq_load flat9 rfl (.head _) (List.mem_singleton.2 rfl) rfl) rfl rfl rfl ?_
        refine WL.q (oq_makeI conc9 rfl) rfl rfl rfl ?_
        refine WL.f1 ?_
        refine WL.callWE (fun a w hf => ent_inv2 inv41_Put rfl rfl rfl hf w) (cput (by omega) (by omega) _ _ hCS) rfl rfl rfl rfl fun v8_7 Hs8_7 hR8_7 => ?_
        obtain ⟨C2, rfl, hCS2⟩ := hR8_7
        refine WL.app1 ?_
        refine WL.nil ?_
        refine WE.then_normal ?_
        refine WC.sub (fr' := [(6, _), (7, _), (8, _), (19, _), (20, _), (21, _)]) ?_ ⟨rfl, rfl, rfl, rfl, rfl, rfl, trivial⟩
        refine WC.exit ?_
        refine WE.then_exit ?_
        refine WE.block_same ?_
        refine WE.then_normal ?_
        refine WC.sub (fr' := [(6, _), (7, _), (8, _), (19, _), (20, _), (21, _)]) ?_ ⟨rfl, rfl, rfl, rfl, rfl, rfl, trivial⟩
        refine WC.region ?_
        refine WL.q (oq_add rfl rfl (by rw [i64_lo, i64_hi]; (first | omega | (simp only [List.length_cons, List.length_nil, List.length_append, List.length_drop, List.length_take]; omega)))) rfl rfl rfl ?_
        refine WL.q (oq_move rfl) rfl rfl rfl ?_
        refine WL.nil ?_
        refine WE.f1 ?_
        refine WE.lose hb6_2 ?_
        refine WE.again (i + 1, putL cap (l.getD i SO0).k (l.getD i SO0).v L, tx, bs, _, _, _, _, _) ?_ ?_ ⟨rfl, rfl, rfl, rfl, rfl, rfl, trivial⟩ (List.Perm.refl _)
        · try dsimp only   -- again 0
          exact ⟨by omega, by rw [sst_next (by omega) hst]; unfold sstep snext; simp only [q7, Bool.false_eq_true, if_false], hCS2, hot, hou⟩
        · (try dsimp only); omega
      ·
        try simp only [Bool.not_eq_eq_eq_not, Bool.not_true, Bool.not_false, decide_eq_true_eq, decide_eq_false_iff_not, Int.not_lt, Int.not_le, ne_eq, Decidable.not_not, ← List.length_eq_zero_iff] at q7
        refine WC.skip ?_
        refine WE.then_normal ?_
        refine WC.sub (fr' := [(6, _), (7, _), (8, _), (10, _), (19, _), (20, _), (21, _)]) ?_ ⟨rfl, rfl, rfl, rfl, rfl, rfl, rfl, trivial⟩
        refine WC.seq ?_
        refine WC.region ?_
        refine WL.q (oq_move rfl) rfl rfl rfl ?_
        refine WL.q (oq_fieldAddr fld31_1 rfl) rfl rfl rfl ?_
        refine WL.q (oq_load flat9 rfl (.head _) (List.mem_singleton.2 rfl) rfl) rfl rfl rfl ?_
        refine WL.q (oq_makeI conc9 rfl) rfl rfl rfl ?_
        refine WL.f1 ?_
        refine WL.callWE (fun a w hf => ent_inv1 inv41_Get rfl rfl hf w) (cget (by omega) _ hCS) rfl rfl rfl rfl fun v9_4 Hs9_4 hR9_4 => ?_
        obtain ⟨rfl, C2, rfl, hCS2⟩ := hR9_4
        rw [getA_eq]
        refine WL.app1 ?_
        refine WL.q (oq_move rfl) rfl rfl rfl ?_
        refine WL.q (oq_extract rfl rfl) rfl rfl rfl ?_
        refine WL.q (oq_extract rfl rfl) rfl rfl rfl ?_
        refine WL.q (oq_assign rfl) rfl rfl rfl ?_
        refine WL.q (oq_assign rfl) rfl rfl rfl ?_
        refine WL.nil ?_
        refine WE.then_normal ?_
        refine WC.sub (fr' := [(6, _), (7, _), (8, _), (11, _), (12, _), (19, _), (20, _), (21, _)]) ?_ ⟨rfl, rfl, rfl, rfl, rfl, rfl, rfl, rfl, trivial⟩
        refine WC.seq ?_
        refine WC.region ?_
        refine WL.q (oq_move rfl) rfl rfl rfl ?_
        refine WL.q (oq_askAns conc9 ty9 rfl) rfl rfl rfl ?_
        refine WL.q (oq_move rfl) rfl rfl rfl ?_
        refine WL.q (oq_extract rfl rfl) rfl rfl rfl ?_
        refine WL.q (oq_extract rfl rfl) rfl rfl rfl ?_
        refine WL.q (oq_assign rfl) rfl rfl rfl ?_
        refine WL.q (oq_assign rfl) rfl rfl rfl ?_
        refine WL.nil ?_
        refine WE.then_normal ?_
        refine WC.sub (fr' := [(6, _), (7, _), (8, _), (12, _), (13, _), (19, _), (20, _), (21, _)]) ?_ ⟨rfl, rfl, rfl, rfl, rfl, rfl, rfl, rfl, trivial⟩
        refine WC.region ?_
        refine WL.q (oq_move rfl) rfl rfl rfl ?_
        refine WL.q (oq_move rfl) rfl rfl rfl ?_
        refine WL.f2 ?_
        refine WL.append1 hot Try.underlying26 ty9 rfl (by decide) (fun _ => rfl) rfl rfl (by unfold maxLen; omega) (by omega) rfl rfl (fun _ => rfl) rfl fun v11 A11 u11 ho11 hne11 => ?_
        refine WL.q (oq_move rfl) rfl rfl rfl ?_
        refine WL.q (oq_move rfl) rfl rfl rfl ?_
        refine WL.f3 ?_
        refine WL.append1 hou Try.underlying27 ty4 rfl (by decide) (fun _ => rfl) rfl rfl (by unfold maxLen; omega) (by omega) rfl rfl (fun _ => rfl) rfl fun v11b A11b u11b ho11b hne11b => ?_
        refine WL.q (oq_assign rfl) rfl rfl rfl ?_
        refine WL.q (oq_assign rfl) rfl rfl rfl ?_
        refine WL.nil ?_
        refine WE.block_normal ?_
        refine WE.then_normal ?_
        refine WC.sub (fr' := [(6, _), (7, _), (8, _), (19, _), (20, _), (21, _)]) ?_ ⟨rfl, rfl, rfl, rfl, rfl, rfl, trivial⟩
        refine WC.region ?_
        refine WL.q (oq_add rfl rfl (by rw [i64_lo, i64_hi]; (first | omega | (simp only [List.length_cons, List.length_nil, List.length_append, List.length_drop, List.length_take]; omega)))) rfl rfl rfl ?_
        refine WL.q (oq_move rfl) rfl rfl rfl ?_
        refine WL.nil ?_
        refine WE.f3 ?_
        refine WE.lose hb6_2 ?_
        refine WE.f3 ?_
        refine WE.f1 ?_
        refine WE.f2 ?_
        refine WE.f3 ?_
        refine WE.again (i + 1, getL (l.getD i SO0).k L, tx ++ [(lfind (l.getD i SO0).k L).getD []], bs ++ [(lfind (l.getD i SO0).k L).isSome], _, _, _, _, _) ?_ ?_ ⟨rfl, rfl, rfl, rfl, rfl, rfl, trivial⟩ (List.Perm.refl _)
        · try dsimp only   -- again 1
          exact ⟨by omega, by rw [sst_next (by omega) hst]; unfold sstep snext; simp only [q7, if_true]; rfl, hCS2, by have := ho11; simpa [strsV] using this, by have := ho11b; simpa [boolsV] using this⟩
        · (try dsimp only); omega
    ·
      try simp only [Bool.not_eq_eq_eq_not, Bool.not_true, Bool.not_false, decide_eq_true_eq, decide_eq_false_iff_not, Int.not_lt, Int.not_le, ne_eq, Decidable.not_not, ← List.length_eq_zero_iff] at q5
      refine WC.exit ?_
      refine WE.then_exit ?_
      refine WE.then_exit ?_
      refine WE.block_same ?_
      refine WE.then_normal ?_
      refine WC.sub (fr' := [(7, _), (8, _)]) ?_ ⟨rfl, rfl, trivial⟩
      refine WC.seq ?_
      refine WC.region ?_
      refine WL.q (oq_move rfl) rfl rfl rfl ?_
      refine WL.q (oq_move rfl) rfl rfl rfl ?_
      refine WL.q (oq_assign rfl) rfl rfl rfl ?_
      refine WL.q (oq_assign rfl) rfl rfl rfl ?_
      refine WL.nil ?_
      refine WE.then_normal ?_
      refine WC.sub (fr' := [(4, _), (5, _)]) ?_ ⟨rfl, rfl, trivial⟩
      refine WC.ret ?_
      refine WE.forget (CS.fresh hCS) ?_
      refine WE.cat ?_
      refine WE.endA (.inl rfl) (res2 Try.results8 rfl rfl) ?_ (fresh_cat (hot.fresh) (hou.fresh))
      -- end 0
      rw [List.take_of_length_le (by omega)] at hst
      rw [hst]
      exact ⟨vt, vl, T, U, rfl, rfl, hot.rd, hou.rd⟩

/-- given.example/pub-tinwright/spec.SAnswers -/
theorem sAnswers (v : Value) (A : Hp) (l : List SO) (hr : RdS 3 v A l.length (recsV sof l)) (hl : l.length ≤ 200) (hb : ∀ i, i < l.length → (l.getD i SO0).k.length + (l.getD i SO0).v.length ≤ 200) (cap : Nat) (hc : 1 ≤ cap ∧ cap ≤ 100) : FnA Try.prog 9 [I (cap : Int), v] A (fun r N => ∃ vt vl T U, r = .tuple #[vt, vl] ∧ N = T ++ U ∧ RdS 1 vt T (sst cap l).2.1.length (strsV (sst cap l).2.1) ∧ RdS 1 vl U (sst cap l).2.2.length (boolsV (sst cap l).2.2)) := by
  refine FnA.enter (n := 85) Try.func9 rfl rfl fun w0 => ?_
  refine WC.sub (fr' := [(0, _), (1, _)]) ?_ ⟨rfl, rfl, trivial⟩
  refine WC.seq ?_
  refine WC.region ?_
  refine WL.q (oq_assign rfl) rfl rfl rfl ?_
  refine WL.q (oq_assign rfl) rfl rfl rfl ?_
  refine WL.nil ?_
  refine WE.then_normal ?_
  refine WC.sub (fr' := [(0, _), (1, _)]) ?_ ⟨rfl, rfl, trivial⟩
  refine WC.seq ?_
  refine WC.add0 ?_
  refine WC.region ?_
  refine WL.q (oq_assign rfl) rfl rfl rfl ?_
  refine WL.nil ?_
  refine WE.then_normal ?_
  refine WC.sub (fr' := [(0, _), (1, _), (6, _)]) ?_ ⟨rfl, rfl, rfl, trivial⟩
  refine WC.seq ?_
  refine WC.add0 ?_
  refine WC.region ?_
  refine WL.q (oq_assign rfl) rfl rfl rfl ?_
  refine WL.nil ?_
  refine WE.then_normal ?_
  refine WC.sub (fr' := [(0, _), (1, _), (6, _), (7, _)]) ?_ ⟨rfl, rfl, rfl, rfl, trivial⟩
  refine WC.seq ?_
  refine WC.add0 ?_
  refine WC.region ?_
  refine WL.q (oq_assign rfl) rfl rfl rfl ?_
  refine WL.nil ?_
  refine WE.then_normal ?_
  refine WC.sub (fr' := [(0, _), (1, _), (6, _), (7, _), (8, _)]) ?_ ⟨rfl, rfl, rfl, rfl, rfl, trivial⟩
  refine WC.seq ?_
  refine WC.seq ?_
  refine WC.region ?_
  refine WL.q (oq_assign rfl) rfl rfl rfl ?_
  refine WL.nil ?_
  refine WE.then_normal ?_
  refine WC.sub (fr' := [(0, _), (1, _), (6, _), (7, _), (8, _), (9, _)]) ?_ ⟨rfl, rfl, rfl, rfl, rfl, rfl, trivial⟩
  refine WC.block ?_
  refine WC.f3 ?_
  refine WC.f1 ?_
  refine WC.f2 ?_
  refine WC.f3 ?_
  refine WC.loop (ι := Nat × (List SO) × (List (List UInt8)) × (List Bool) × Value × Value × Value × Hp × Hp × Hp) (fun i_ => (fun (i : Nat) (ks : List SO) (tx : List (List UInt8)) (bs : List Bool) (vk : Value) (vt : Value) (vl : Value) (K : Hp) (T : Hp) (U : Hp) => [(0, I (cap : Int)), (1, v), (6, vk), (7, vt), (8, vl), (9, I (i : Int))]) i_.1 i_.2.1 i_.2.2.1 i_.2.2.2.1 i_.2.2.2.2.1 i_.2.2.2.2.2.1 i_.2.2.2.2.2.2.1 i_.2.2.2.2.2.2.2.1 i_.2.2.2.2.2.2.2.2.1 i_.2.2.2.2.2.2.2.2.2) (fun i_ => (fun (i : Nat) (ks : List SO) (tx : List (List UInt8)) (bs : List Bool) (vk : Value) (vt : Value) (vl : Value) (K : Hp) (T : Hp) (U : Hp) => [K, T, U, A]) i_.1 i_.2.1 i_.2.2.1 i_.2.2.2.1 i_.2.2.2.2.1 i_.2.2.2.2.2.1 i_.2.2.2.2.2.2.1 i_.2.2.2.2.2.2.2.1 i_.2.2.2.2.2.2.2.2.1 i_.2.2.2.2.2.2.2.2.2) (fun i_ => (fun (i : Nat) (ks : List SO) (tx : List (List UInt8)) (bs : List Bool) (vk : Value) (vt : Value) (vl : Value) (K : Hp) (T : Hp) (U : Hp) => i ≤ l.length ∧ sst cap (l.take i) = (rv ks, tx, bs) ∧ OwO w0.heap.size 31 3 vk K ks.length (recsV sof ks) ∧ OwS w0.heap.size 9 1 vt T tx.length (strsV tx) ∧ OwS w0.heap.size 4 1 vl U bs.length (boolsV bs)) i_.1 i_.2.1 i_.2.2.1 i_.2.2.2.1 i_.2.2.2.2.1 i_.2.2.2.2.2.1 i_.2.2.2.2.2.2.1 i_.2.2.2.2.2.2.2.1 i_.2.2.2.2.2.2.2.2.1 i_.2.2.2.2.2.2.2.2.2) (fun i_ => (fun (i : Nat) (ks : List SO) (tx : List (List UInt8)) (bs : List Bool) (vk : Value) (vt : Value) (vl : Value) (K : Hp) (T : Hp) (U : Hp) => l.length - i) i_.1 i_.2.1 i_.2.2.1 i_.2.2.2.1 i_.2.2.2.2.1 i_.2.2.2.2.2.1 i_.2.2.2.2.2.2.1 i_.2.2.2.2.2.2.2.1 i_.2.2.2.2.2.2.2.2.1 i_.2.2.2.2.2.2.2.2.2) ((0, [], [], [], _, _, _, _, _, _)) ?_ ⟨rfl, rfl, rfl, rfl, rfl, rfl, trivial⟩ (List.Perm.refl _) ?_
  · try dsimp only
    exact ⟨by omega, rfl, OwO.nil _ _ _, OwS.nil _ _ _, OwS.nil _ _ _⟩
  · rintro ⟨i, ks, tx, bs, vk, vt, vl, K, T, U⟩ hp
    try dsimp only at hp
    obtain ⟨hi, hst, hok, hot, hou⟩ := hp
    show WC _ _ _ _ _ _ ([(0, I (cap : Int)), (1, v), (6, vk), (7, vt), (8, vl), (9, I (i : Int))]) ([K, T, U, A])
    have hrl := sst_len cap hc.1 l i hi
    rw [hst] at hrl
    obtain ⟨hrl1, hrl2, hrl3⟩ := hrl
    dsimp only at hrl1 hrl2 hrl3
    have hksl : ks.length ≤ cap := by rw [rv_len] at hrl1; exact hrl1
    refine WC.seq ?_
    refine WC.seq ?_
    refine WC.region ?_
    refine WL.q (oq_move rfl) rfl rfl rfl ?_
    refine WL.q (oq_move rfl) rfl rfl rfl ?_
    refine WL.q (oq_len_rd hr Try.underlying22 rfl) rfl rfl rfl ?_
    refine WL.q (oq_lss rfl rfl) rfl rfl rfl ?_
    refine WL.nil ?_
    refine WE.then_normal ?_
    refine WC.sub (fr' := [(0, _), (1, _), (6, _), (7, _), (8, _), (9, _), (17, _)]) ?_ ⟨rfl, rfl, rfl, rfl, rfl, rfl, rfl, trivial⟩
    refine WC.cond rfl (fun q5 => ?_) (fun q5 => ?_)
    ·
      try simp only [Bool.not_eq_eq_eq_not, Bool.not_true, Bool.not_false, decide_eq_true_eq, decide_eq_false_iff_not, Int.not_lt, Int.not_le, ne_eq, Decidable.not_not, ← List.length_eq_zero_iff] at q5
      refine WC.skip ?_
      refine WE.then_normal ?_
      refine WC.sub (fr' := [(0, _), (1, _), (6, _), (7, _), (8, _), (9, _)]) ?_ ⟨rfl, rfl, rfl, rfl, rfl, rfl, trivial⟩
      refine WC.seq ?_
      refine WC.block ?_
      refine WC.seq ?_
      refine WC.region ?_
      refine WL.q (oq_move rfl) rfl rfl rfl ?_
      refine WL.q (oq_move rfl) rfl rfl rfl ?_
      refine WL.q (oq_ixaddr hr Try.underlying22 ty31 rfl rfl (by (first | omega | (simp only [List.length_cons, List.length_nil, List.length_append, List.length_drop, List.length_take]; omega)))) rfl rfl rfl ?_
      refine WL.q (oq_loadEl (f := sof) SO0 [_, _, _] (fun _ => rfl) agg31 ty31 hr (.tail _ (.tail _ (.tail _ (.head _)))) rfl (by (first | omega | (simp only [List.length_cons, List.length_nil, List.length_append, List.length_drop, List.length_take]; omega))) (by first | exact Int.toNat_natCast _ | exact rfl) rfl) rfl rfl rfl ?_
      refine WL.alloc ty31 rfl rfl fun ob hob => ?_
      refine WL.storeS #[_, _, _] ty31 rfl rfl rfl rfl (Nat.le_of_ble_eq_true rfl) rfl rfl ?_
      refine WL.nil ?_
      refine WE.then_normal ?_
      refine WC.sub (fr' := [(0, _), (1, _), (6, _), (7, _), (8, _), (9, _), (10, _)]) ?_ ⟨rfl, rfl, rfl, rfl, rfl, rfl, rfl, trivial⟩
      refine WC.seq ?_
      refine WC.region ?_
      refine WL.q (oq_assign rfl) rfl rfl rfl ?_
      refine WL.nil ?_
      refine WE.then_normal ?_
      refine WC.sub (fr' := [(0, _), (1, _), (6, _), (7, _), (8, _), (9, _), (10, _), (11, _)]) ?_ ⟨rfl, rfl, rfl, rfl, rfl, rfl, rfl, rfl, trivial⟩
      refine WC.seq ?_
      refine WC.seq ?_
      refine WC.region ?_
      refine WL.q (oq_assign rfl) rfl rfl rfl ?_
      refine WL.nil ?_
      refine WE.then_normal ?_
      refine WC.sub (fr' := [(0, _), (1, _), (6, _), (7, _), (8, _), (9, _), (10, _), (11, _), (12, _)]) ?_ ⟨rfl, rfl, rfl, rfl, rfl, rfl, rfl, rfl, rfl, trivial⟩
      refine WC.block ?_
      refine WC.f4 ?_
      refine WC.f1 ?_
      refine WC.f4 ?_
      refine WC.f4 ?_
      refine WC.f4 ?_
      refine WC.loop (ι := Int × Nat) (fun i_ => (fun (a : Int) (j : Nat) => [(0, I (cap : Int)), (1, v), (6, vk), (7, vt), (8, vl), (9, I (i : Int)), (10, Pt ob 0), (11, I a), (12, I (j : Int))]) i_.1 i_.2) (fun i_ => (fun (a : Int) (j : Nat) => [K, T, U, [(ob, .cells #[.bool (l.getD i SO0).g, S (l.getD i SO0).k, S (l.getD i SO0).v] 31 (0, 0))], A]) i_.1 i_.2) (fun i_ => (fun (a : Int) (j : Nat) => j ≤ ks.length ∧ AtOk ks (l.getD i SO0).k j a) i_.1 i_.2) (fun i_ => (fun (a : Int) (j : Nat) => ks.length - j) i_.1 i_.2) ((-1, 0)) ?_ ⟨rfl, rfl, rfl, rfl, rfl, rfl, rfl, rfl, rfl, trivial⟩ (List.Perm.refl _) ?_
      · try dsimp only
        exact ⟨by omega, .inl ⟨rfl, fun m hm => by omega⟩⟩
      · rintro ⟨a, j⟩ hp
        try dsimp only at hp
        obtain ⟨hj, hat⟩ := hp
        show WC _ _ _ _ _ _ ([(0, I (cap : Int)), (1, v), (6, vk), (7, vt), (8, vl), (9, I (i : Int)), (10, Pt ob 0), (11, I a), (12, I (j : Int))]) ([K, T, U, [(ob, .cells #[.bool (l.getD i SO0).g, S (l.getD i SO0).k, S (l.getD i SO0).v] 31 (0, 0))], A])
        refine WC.seq ?_
        refine WC.seq ?_
        refine WC.region ?_
        refine WL.q (oq_move rfl) rfl rfl rfl ?_
        refine WL.q (oq_move rfl) rfl rfl rfl ?_
        refine WL.q (oq_len_rd hok.rd Try.underlying22 rfl) rfl rfl rfl ?_
        refine WL.q (oq_lss rfl rfl) rfl rfl rfl ?_
        refine WL.nil ?_
        refine WE.then_normal ?_
        refine WC.sub (fr' := [(0, _), (1, _), (6, _), (7, _), (8, _), (9, _), (10, _), (11, _), (12, _), (27, _)]) ?_ ⟨rfl, rfl, rfl, rfl, rfl, rfl, rfl, rfl, rfl, rfl, trivial⟩
        refine WC.cond rfl (fun q10 => ?_) (fun q10 => ?_)
        ·
          try simp only [Bool.not_eq_eq_eq_not, Bool.not_true, Bool.not_false, decide_eq_true_eq, decide_eq_false_iff_not, Int.not_lt, Int.not_le, ne_eq, Decidable.not_not, ← List.length_eq_zero_iff] at q10
          refine WC.skip ?_
          refine WE.then_normal ?_
          refine WC.sub (fr' := [(0, _), (1, _), (6, _), (7, _), (8, _), (9, _), (10, _), (11, _), (12, _)]) ?_ ⟨rfl, rfl, rfl, rfl, rfl, rfl, rfl, rfl, rfl, trivial⟩
          refine WC.seq ?_
          refine WC.block ?_
          refine WC.seq ?_
          refine WC.quiet (by kernel_rfl) (by kernel_rfl) ?_
          refine WQ.q (oq_move rfl) rfl rfl rfl ?_
          refine WQ.q (oq_move rfl) rfl rfl rfl ?_
          refine WQ.q (oq_ixaddr hok.rd Try.underlying22 ty31 rfl rfl (by (first | omega | (simp only [List.length_cons, List.length_nil, List.length_append, List.length_drop, List.length_take]; omega)))) rfl rfl rfl ?_
          refine WQ.q (oq_fldEl fld31_1 hok.rd rfl (by (first | omega | (simp only [List.length_cons, List.length_nil, List.length_append, List.length_drop, List.length_take]; omega)))) rfl rfl rfl ?_
          refine WQ.q (oq_loadF (f := sof) SO0 (fun _ => rfl) flat9 hok.rd (.head _) rfl (by (first | omega | (simp only [List.length_cons, List.length_nil, List.length_append, List.length_drop, List.length_take]; omega))) (by first | exact Int.toNat_natCast _ | exact rfl) (by decide) rfl) rfl rfl rfl ?_
          refine WQ.q (oq_fieldAddr fld31_1 rfl) rfl rfl rfl ?_
          refine WQ.q (oq_load flat9 rfl (.tail _ (.tail _ (.tail _ (.head _)))) (List.mem_singleton.2 rfl) rfl) rfl rfl rfl ?_
          refine WQ.q (oq_seql rfl rfl) rfl rfl rfl ?_
          refine WQ.nil ?_
          refine WE.then_normal ?_
          refine WC.sub (fr' := [(0, _), (1, _), (6, _), (7, _), (8, _), (9, _), (10, _), (11, _), (12, _), (37, _)]) ?_ ⟨rfl, rfl, rfl, rfl, rfl, rfl, rfl, rfl, rfl, rfl, trivial⟩
          refine WC.cond rfl (fun q12 => ?_) (fun q12 => ?_)
          ·
            try simp only [Bool.not_eq_eq_eq_not, Bool.not_true, Bool.not_false, decide_eq_true_eq, decide_eq_false_iff_not, Int.not_lt, Int.not_le, ne_eq, Decidable.not_not, ← List.length_eq_zero_iff] at q12
            refine WC.region ?_
            refine WL.q (oq_move rfl) rfl rfl rfl ?_
            refine WL.q (oq_assign rfl) rfl rfl rfl ?_
            refine WL.nil ?_
            refine WE.block_normal ?_
            refine WE.then_normal ?_
            refine WC.sub (fr' := [(0, _), (1, _), (6, _), (7, _), (8, _), (9, _), (10, _), (11, _), (12, _)]) ?_ ⟨rfl, rfl, rfl, rfl, rfl, rfl, rfl, rfl, rfl, trivial⟩
            refine WC.region ?_
            refine WL.q (oq_move rfl) rfl rfl rfl ?_
            refine WL.q (oq_add rfl rfl (by rw [i64_lo, i64_hi]; (first | omega | (simp only [List.length_cons, List.length_nil, List.length_append, List.length_drop, List.length_take]; omega)))) rfl rfl rfl ?_
            refine WL.q (oq_assign rfl) rfl rfl rfl ?_
            refine WL.nil ?_
            refine WE.again ((j : Int), j + 1) ?_ ?_ ⟨rfl, rfl, rfl, rfl, rfl, rfl, rfl, rfl, rfl, trivial⟩ (List.Perm.refl _)
            · try dsimp only   -- again 0
              exact ⟨by omega, hat.hit q12⟩
            · (try dsimp only); omega
          ·
            try simp only [Bool.not_eq_eq_eq_not, Bool.not_true, Bool.not_false, decide_eq_true_eq, decide_eq_false_iff_not, Int.not_lt, Int.not_le, ne_eq, Decidable.not_not, ← List.length_eq_zero_iff] at q12
            refine WC.skip ?_
            refine WE.block_normal ?_
            refine WE.then_normal ?_
            refine WC.sub (fr' := [(0, _), (1, _), (6, _), (7, _), (8, _), (9, _), (10, _), (11, _), (12, _)]) ?_ ⟨rfl, rfl, rfl, rfl, rfl, rfl, rfl, rfl, rfl, trivial⟩
            refine WC.region ?_
            refine WL.q (oq_move rfl) rfl rfl rfl ?_
            refine WL.q (oq_add rfl rfl (by rw [i64_lo, i64_hi]; (first | omega | (simp only [List.length_cons, List.length_nil, List.length_append, List.length_drop, List.length_take]; omega)))) rfl rfl rfl ?_
            refine WL.q (oq_assign rfl) rfl rfl rfl ?_
            refine WL.nil ?_
            refine WE.again (a, j + 1) ?_ ?_ ⟨rfl, rfl, rfl, rfl, rfl, rfl, rfl, rfl, rfl, trivial⟩ (List.Perm.refl _)
            · try dsimp only   -- again 1
              exact ⟨by omega, hat.miss q12⟩
            · (try dsimp only); omega
        ·
          try simp only [Bool.not_eq_eq_eq_not, Bool.not_true, Bool.not_false, decide_eq_true_eq, decide_eq_false_iff_not, Int.not_lt, Int.not_le, ne_eq, Decidable.not_not, ← List.length_eq_zero_iff] at q10
          refine WC.exit ?_
          refine WE.then_exit ?_
          refine WE.then_exit ?_
          refine WE.block_same ?_
          refine WE.then_normal ?_
          refine WC.sub (fr' := [(0, _), (1, _), (6, _), (7, _), (8, _), (9, _), (10, _), (11, _)]) ?_ ⟨rfl, rfl, rfl, rfl, rfl, rfl, rfl, rfl, trivial⟩
          refine WC.cut (ι := SO × (List (List UInt8)) × (List Bool) × Value × Value × Hp × Hp) (fun i_ => (fun (o2 : SO) (tx2 : List (List UInt8)) (bs2 : List Bool) (vt2 : Value) (vl2 : Value) (T2 : Hp) (U2 : Hp) => [(0, I (cap : Int)), (1, v), (6, vk), (7, vt2), (8, vl2), (9, I (i : Int)), (10, Pt ob 0), (11, I a)]) i_.1 i_.2.1 i_.2.2.1 i_.2.2.2.1 i_.2.2.2.2.1 i_.2.2.2.2.2.1 i_.2.2.2.2.2.2) (fun i_ => (fun (o2 : SO) (tx2 : List (List UInt8)) (bs2 : List Bool) (vt2 : Value) (vl2 : Value) (T2 : Hp) (U2 : Hp) => [K, T2, U2, [(ob, .cells #[.bool o2.g, S o2.k, S o2.v] 31 (0, 0))], A]) i_.1 i_.2.1 i_.2.2.1 i_.2.2.2.1 i_.2.2.2.2.1 i_.2.2.2.2.2.1 i_.2.2.2.2.2.2) (fun i_ => (fun (o2 : SO) (tx2 : List (List UInt8)) (bs2 : List Bool) (vt2 : Value) (vl2 : Value) (T2 : Hp) (U2 : Hp) => o2.k = (l.getD i SO0).k ∧ ((l.getD i SO0).g = true → 0 ≤ a ∧ lfind (l.getD i SO0).k (rv ks) = some o2.v) ∧ ((l.getD i SO0).g = false → o2.v = (l.getD i SO0).v) ∧ tx2 = (if (l.getD i SO0).g then tx ++ [sgot (rv ks) (l.getD i SO0)] else tx) ∧ bs2 = (if (l.getD i SO0).g then bs ++ [shas (rv ks) (l.getD i SO0)] else bs) ∧ tx2.length ≤ 200 ∧ bs2.length ≤ 200 ∧ OwS w0.heap.size 9 1 vt2 T2 tx2.length (strsV tx2) ∧ OwS w0.heap.size 4 1 vl2 U2 bs2.length (boolsV bs2)) i_.1 i_.2.1 i_.2.2.1 i_.2.2.2.1 i_.2.2.2.2.1 i_.2.2.2.2.2.1 i_.2.2.2.2.2.2) ?_ ?_
          ·
            refine WC.seq ?_
            obtain rfl : j = ks.length := by omega
            have hlo := hat.lo
            refine WC.region ?_
            refine WL.q (oq_fieldAddr fld31_0 rfl) rfl rfl rfl ?_
            refine WL.q (oq_load flat4 rfl (.tail _ (.tail _ (.tail _ (.head _)))) (List.mem_singleton.2 rfl) rfl) rfl rfl rfl ?_
            refine WL.nil ?_
            refine WE.then_normal ?_
            refine WC.sub (fr' := [(0, _), (1, _), (6, _), (7, _), (8, _), (9, _), (10, _), (11, _), (40, _)]) ?_ ⟨rfl, rfl, rfl, rfl, rfl, rfl, rfl, rfl, rfl, trivial⟩
            refine WC.cond rfl (fun q14 => ?_) (fun q14 => ?_)
            ·
              try simp only [Bool.not_eq_eq_eq_not, Bool.not_true, Bool.not_false, decide_eq_true_eq, decide_eq_false_iff_not, Int.not_lt, Int.not_le, ne_eq, Decidable.not_not, ← List.length_eq_zero_iff] at q14
              refine WC.seq ?_
              refine WC.region ?_
              refine WL.q (oq_assign rfl) rfl rfl rfl ?_
              refine WL.nil ?_
              refine WE.then_normal ?_
              refine WC.sub (fr' := [(0, _), (1, _), (6, _), (7, _), (8, _), (9, _), (10, _), (11, _), (13, _)]) ?_ ⟨rfl, rfl, rfl, rfl, rfl, rfl, rfl, rfl, rfl, trivial⟩
              refine WC.cut (ι := (List UInt8)) (fun (w : List UInt8) => [(0, I (cap : Int)), (1, v), (6, vk), (7, vt), (8, vl), (9, I (i : Int)), (10, Pt ob 0), (11, I a), (13, S w)]) (fun (w : List UInt8) => [K, T, U, [(ob, .cells #[.bool (l.getD i SO0).g, S (l.getD i SO0).k, S (l.getD i SO0).v] 31 (0, 0))], A]) (fun (w : List UInt8) => w = sgot (rv ks) (l.getD i SO0)) ?_ ?_
              ·
                refine WC.seq ?_
                refine WC.region ?_
                refine WL.q (oq_move rfl) rfl rfl rfl ?_
                refine WL.q (oq_geq rfl rfl) rfl rfl rfl ?_
                refine WL.nil ?_
                refine WE.then_normal ?_
                refine WC.sub (fr' := [(0, _), (1, _), (6, _), (7, _), (8, _), (9, _), (10, _), (11, _), (13, _), (42, _)]) ?_ ⟨rfl, rfl, rfl, rfl, rfl, rfl, rfl, rfl, rfl, rfl, trivial⟩
                refine WC.cond rfl (fun q16 => ?_) (fun q16 => ?_)
                ·
                  try simp only [Bool.not_eq_eq_eq_not, Bool.not_true, Bool.not_false, decide_eq_true_eq, decide_eq_false_iff_not, Int.not_lt, Int.not_le, ne_eq, Decidable.not_not, ← List.length_eq_zero_iff] at q16
                  obtain ⟨m, rfl, hm, hf1, hd1⟩ := hat.pos (by omega)
                  refine WC.region ?_
                  refine WL.q (oq_move rfl) rfl rfl rfl ?_
                  refine WL.q (oq_move rfl) rfl rfl rfl ?_
                  refine WL.q (oq_ixaddr hok.rd Try.underlying22 ty31 rfl rfl (by (first | omega | (simp only [List.length_cons, List.length_nil, List.length_append, List.length_drop, List.length_take]; omega)))) rfl rfl rfl ?_
                  refine WL.q (oq_fldEl fld31_2 hok.rd rfl (by (first | omega | (simp only [List.length_cons, List.length_nil, List.length_append, List.length_drop, List.length_take]; omega)))) rfl rfl rfl ?_
                  refine WL.q (oq_loadF (f := sof) SO0 (fun _ => rfl) flat9 hok.rd (.head _) rfl (by (first | omega | (simp only [List.length_cons, List.length_nil, List.length_append, List.length_drop, List.length_take]; omega))) (by first | exact Int.toNat_natCast _ | exact rfl) (by decide) rfl) rfl rfl rfl ?_
                  refine WL.q (oq_assign rfl) rfl rfl rfl ?_
                  refine WL.nil ?_
                  refine WE.meet _ ?_ ⟨rfl, rfl, rfl, rfl, rfl, rfl, rfl, rfl, rfl, trivial⟩ (List.Perm.refl _)
                  try dsimp only
                  unfold sgot; rw [hf1]; rfl   -- meet 0
                ·
                  try simp only [Bool.not_eq_eq_eq_not, Bool.not_true, Bool.not_false, decide_eq_true_eq, decide_eq_false_iff_not, Int.not_lt, Int.not_le, ne_eq, Decidable.not_not, ← List.length_eq_zero_iff] at q16
                  refine WC.skip ?_
                  refine WE.meet _ ?_ ⟨rfl, rfl, rfl, rfl, rfl, rfl, rfl, rfl, rfl, trivial⟩ (List.Perm.refl _)
                  try dsimp only
                  unfold sgot; rw [hat.neg (by omega)]; rfl   -- meet 1
              · rintro w hp
                try dsimp only at hp
                show WC _ _ _ _ _ _ ([(0, I (cap : Int)), (1, v), (6, vk), (7, vt), (8, vl), (9, I (i : Int)), (10, Pt ob 0), (11, I a), (13, S w)]) ([K, T, U, [(ob, .cells #[.bool (l.getD i SO0).g, S (l.getD i SO0).k, S (l.getD i SO0).v] 31 (0, 0))], A])
                have hw := hp
                refine WC.seq ?_
                refine WC.region ?_
                refine WL.q (oq_move rfl) rfl rfl rfl ?_
                refine WL.q (oq_move rfl) rfl rfl rfl ?_
                refine WL.f1 ?_
                refine WL.append1 hot Try.underlying26 ty9 rfl (by decide) (fun _ => rfl) rfl rfl (by unfold maxLen; omega) (by omega) rfl rfl (fun _ => rfl) rfl fun v18 A18 u18 ho18 hne18 => ?_
                refine WL.q (oq_move rfl) rfl rfl rfl ?_
                refine WL.q (oq_move rfl) rfl rfl rfl ?_
                refine WL.q (oq_geq rfl rfl) rfl rfl rfl ?_
                refine WL.f2 ?_
                refine WL.append1 hou Try.underlying27 ty4 rfl (by decide) (fun _ => rfl) rfl rfl (by unfold maxLen; omega) (by omega) rfl rfl (fun _ => rfl) rfl fun v18b A18b u18b ho18b hne18b => ?_
                refine WL.q (oq_assign rfl) rfl rfl rfl ?_
                refine WL.q (oq_assign rfl) rfl rfl rfl ?_
                refine WL.nil ?_
                refine WE.then_normal ?_
                refine WC.sub (fr' := [(0, _), (1, _), (6, _), (7, _), (8, _), (9, _), (10, _), (11, _), (13, _)]) ?_ ⟨rfl, rfl, rfl, rfl, rfl, rfl, rfl, rfl, rfl, trivial⟩
                refine WC.seq ?_
                refine WC.seq ?_
                refine WC.region ?_
                refine WL.q (oq_move rfl) rfl rfl rfl ?_
                refine WL.q (oq_lss rfl rfl) rfl rfl rfl ?_
                refine WL.nil ?_
                refine WE.then_normal ?_
                refine WC.sub (fr' := [(0, _), (1, _), (6, _), (7, _), (8, _), (9, _), (10, _), (11, _), (13, _), (58, _)]) ?_ ⟨rfl, rfl, rfl, rfl, rfl, rfl, rfl, rfl, rfl, rfl, trivial⟩
                refine WC.cond rfl (fun q19 => ?_) (fun q19 => ?_)
                ·
                  try simp only [Bool.not_eq_eq_eq_not, Bool.not_true, Bool.not_false, decide_eq_true_eq, decide_eq_false_iff_not, Int.not_lt, Int.not_le, ne_eq, Decidable.not_not, ← List.length_eq_zero_iff] at q19
                  refine WC.exit ?_
                  refine WE.then_exit ?_
                  refine WE.then_exit ?_
                  refine WE.block_same ?_
                  refine WE.then_normal ?_
                  refine WC.sub (fr' := [(0, _), (1, _), (6, _), (7, _), (8, _), (9, _)]) ?_ ⟨rfl, rfl, rfl, rfl, rfl, rfl, trivial⟩
                  refine WC.region ?_
                  refine WL.q (oq_move rfl) rfl rfl rfl ?_
                  refine WL.q (oq_add rfl rfl (by rw [i64_lo, i64_hi]; (first | omega | (simp only [List.length_cons, List.length_nil, List.length_append, List.length_drop, List.length_take]; omega)))) rfl rfl rfl ?_
                  refine WL.q (oq_assign rfl) rfl rfl rfl ?_
                  refine WL.nil ?_
                  refine WE.f3 ?_
                  refine WE.lose hob ?_
                  refine WE.f3 ?_
                  refine WE.f1 ?_
                  refine WE.f2 ?_
                  refine WE.f3 ?_
                  refine WE.again (i + 1, ks, tx ++ [w], bs ++ [decide (0 ≤ a)], _, _, _, _, _, _) ?_ ?_ ⟨rfl, rfl, rfl, rfl, rfl, rfl, trivial⟩ (List.Perm.refl _)
                  · try dsimp only   -- again 0
                    have hno := hat.neg (by omega)
                    exact ⟨by omega, by rw [sst_next (by omega) hst]; unfold sstep snext getL shas; simp only [q14, if_true, hno]; rw [hw, decide_eq_false (show ¬ 0 ≤ a by omega)]; rfl, hok, by have := ho18; simpa [strsV] using this, by have := ho18b; simpa [boolsV] using this⟩
                  · (try dsimp only); omega
                ·
                  try simp only [Bool.not_eq_eq_eq_not, Bool.not_true, Bool.not_false, decide_eq_true_eq, decide_eq_false_iff_not, Int.not_lt, Int.not_le, ne_eq, Decidable.not_not, ← List.length_eq_zero_iff] at q19
                  refine WC.skip ?_
                  refine WE.then_normal ?_
                  refine WC.sub (fr' := [(0, _), (1, _), (6, _), (7, _), (8, _), (9, _), (10, _), (11, _), (13, _)]) ?_ ⟨rfl, rfl, rfl, rfl, rfl, rfl, rfl, rfl, rfl, trivial⟩
                  refine WC.region ?_
                  refine WL.q (oq_move rfl) rfl rfl rfl ?_
                  refine WL.q (oq_fieldAddr fld31_2 rfl) rfl rfl rfl ?_
                  refine WL.f3 ?_
                  refine WL.store1 #[_, _, _] ty9 rfl rfl (by first | rfl | exact OwS.one one_) (Nat.lt_of_lt_of_le (Nat.lt_succ_self _) (Nat.le_of_ble_eq_true rfl)) rfl rfl ?_
                  refine WL.nil ?_
                  have hf2 : lfind (l.getD i SO0).k (rv ks) = some w := by obtain ⟨m, _, _, hf1, _⟩ := hat.pos (by omega); rw [hw]; unfold sgot; rw [hf1]; rfl
                  refine WE.f4 ?_
                  refine WE.f1 ?_
                  refine WE.f2 ?_
                  refine WE.f3 ?_
                  refine WE.f4 ?_
                  refine WE.meet (⟨(l.getD i SO0).g, (l.getD i SO0).k, w⟩, tx ++ [w], bs ++ [decide (0 ≤ a)], _, _, _, _) ?_ ⟨rfl, rfl, rfl, rfl, rfl, rfl, rfl, rfl, trivial⟩ (List.Perm.refl _)
                  try dsimp only
                  exact ⟨rfl, fun _ => ⟨by omega, hf2⟩, (fun h => by rw [q14] at h; cases h), by rw [q14, hw]; rfl, by rw [q14, decide_eq_true (show 0 ≤ a by omega)]; unfold shas; rw [hf2]; rfl, by simp; omega, by simp; omega, by have := ho18; simpa [strsV] using this, by have := ho18b; simpa [boolsV] using this⟩   -- meet 0
            ·
              try simp only [Bool.not_eq_eq_eq_not, Bool.not_true, Bool.not_false, decide_eq_true_eq, decide_eq_false_iff_not, Int.not_lt, Int.not_le, ne_eq, Decidable.not_not, ← List.length_eq_zero_iff] at q14
              refine WC.skip ?_
              refine WE.meet ((l.getD i SO0), tx, bs, _, _, _, _) ?_ ⟨rfl, rfl, rfl, rfl, rfl, rfl, rfl, rfl, trivial⟩ (List.Perm.refl _)
              try dsimp only
              exact ⟨rfl, (fun h => by rw [q14] at h; cases h), fun _ => rfl, by rw [q14]; rfl, by rw [q14]; rfl, by omega, by omega, hot, hou⟩   -- meet 1
          · rintro ⟨o2, tx2, bs2, vt2, vl2, T2, U2⟩ hp
            try dsimp only at hp
            obtain ⟨hok2k, hg1, hg2, htx2, hbs2, htl, hbl, hot2, hou2⟩ := hp
            show WC _ _ _ _ _ _ ([(0, I (cap : Int)), (1, v), (6, vk), (7, vt2), (8, vl2), (9, I (i : Int)), (10, Pt ob 0), (11, I a)]) ([K, T2, U2, [(ob, .cells #[.bool o2.g, S o2.k, S o2.v] 31 (0, 0))], A])
            obtain rfl : j = ks.length := by omega
            have hlo := hat.lo
            refine WC.cut (ι := (List SO) × Value × Hp) (fun i_ => (fun (ks2 : List SO) (vk2 : Value) (K2 : Hp) => [(0, I (cap : Int)), (1, v), (6, vk2), (7, vt2), (8, vl2), (9, I (i : Int)), (10, Pt ob 0)]) i_.1 i_.2.1 i_.2.2) (fun i_ => (fun (ks2 : List SO) (vk2 : Value) (K2 : Hp) => [K2, T2, U2, [(ob, .cells #[.bool o2.g, S o2.k, S o2.v] 31 (0, 0))], A]) i_.1 i_.2.1 i_.2.2) (fun i_ => (fun (ks2 : List SO) (vk2 : Value) (K2 : Hp) => ks2 = kout ks a ∧ OwO w0.heap.size 31 3 vk2 K2 ks2.length (recsV sof ks2)) i_.1 i_.2.1 i_.2.2) ?_ ?_
            ·
              refine WC.seq ?_
              refine WC.region ?_
              refine WL.q (oq_move rfl) rfl rfl rfl ?_
              refine WL.q (oq_geq rfl rfl) rfl rfl rfl ?_
              refine WL.nil ?_
              refine WE.then_normal ?_
              refine WC.sub (fr' := [(0, _), (1, _), (6, _), (7, _), (8, _), (9, _), (10, _), (11, _), (62, _)]) ?_ ⟨rfl, rfl, rfl, rfl, rfl, rfl, rfl, rfl, rfl, trivial⟩
              refine WC.cond rfl (fun q21 => ?_) (fun q21 => ?_)
              ·
                try simp only [Bool.not_eq_eq_eq_not, Bool.not_true, Bool.not_false, decide_eq_true_eq, decide_eq_false_iff_not, Int.not_lt, Int.not_le, ne_eq, Decidable.not_not, ← List.length_eq_zero_iff] at q21
                obtain ⟨m, rfl, hm, hf1, hd1⟩ := hat.pos (by omega)
                obtain ⟨v3, hv3, hov3⟩ := slice_val (i := 0) (j := (m : Int)) hok.rd ty31 (by omega)
                obtain ⟨v8, hv8, hov8⟩ := slice_val (i := ((m : Int) + 1)) (j := (ks.length : Int)) hok.rd ty31 (by omega)
                rw [recs_cut ks 0 m (by omega), cut0] at hv3
                rw [recs_cut ks (m + 1) ks.length (by omega), cutE] at hv8
                refine WC.tailM (pl := [_, _, _, _, _, _, _]) (ql := []) (tl := [_, _, _, _]) [1, 2, 3, 5, 6, 7, 8] [] 0 [4, 9, 10] (by kernel_rfl) (by kernel_rfl) (by kernel_rfl) (by kernel_rfl) (by kernel_rfl) (by kernel_rfl) (by decide) rfl rfl rfl (by decide) (by repeat (first | with_reducible exact QOk.body | with_reducible apply QOk.then | with_reducible apply QOk.block | exact QOk.body | apply QOk.then | apply QOk.block)) ?_
                refine WM.q (fun w0 => oq_move rfl) rfl rfl rfl ?_
                refine WM.q (fun w0 => oq_move rfl) rfl rfl rfl ?_
                refine WM.q (fun w0 => hov3 Try.underlying22 rfl rfl ⟨_, rfl⟩) rfl rfl rfl ?_
                refine WM.q (fun w0 => oq_move rfl) rfl rfl rfl ?_
                refine WM.q (fun w0 => oq_move rfl) rfl rfl rfl ?_
                refine WM.q (fun w0 => oq_add rfl rfl (by rw [i64_lo, i64_hi]; (first | omega | (simp only [List.length_cons, List.length_nil, List.length_append, List.length_drop, List.length_take]; omega)))) rfl rfl rfl ?_
                refine WM.q (fun w0 => hov8 Try.underlying22 rfl ⟨_, rfl⟩ rfl) rfl rfl rfl ?_
                refine WM.nil ?_
                refine WY.nil ?_
                refine WL.build0 Try.underlying22 ty31 rfl rfl fun v22 A22 ho22 hne22 => ?_
                refine WL.appendS ho22 Try.underlying22 ty31 rfl (by decide) rfl rfl hv3 (.head _) (recs_one _) (by unfold maxLen; omega) (by omega) rfl rfl fun v22 A22 ho22 hne22 => ?_
                refine WL.appendS ho22 Try.underlying22 ty31 rfl (by decide) rfl rfl hv8 (.head _) (recs_one _) (by unfold maxLen; omega) (by omega) rfl rfl fun v22 A22 ho22 hne22 => ?_
                refine WL.f1 ?_
                refine WL.f1 ?_
                refine WL.f1 ?_
                refine WL.forget hok.fresh ?_
                refine WL.q (oq_assign rfl) rfl rfl rfl ?_
                refine WL.nil ?_
                refine WE.meet (ks.take m ++ ks.drop (m + 1), _, _) ?_ ⟨rfl, rfl, rfl, rfl, rfl, rfl, rfl, trivial⟩ (List.Perm.refl _)
                try dsimp only
                exact ⟨by unfold kout; rw [if_pos (by omega), Int.toNat_natCast], OwO.of ho22.toO (by simp; omega) (by rw [List.nil_append, recs_app])⟩   -- meet 0
              ·
                try simp only [Bool.not_eq_eq_eq_not, Bool.not_true, Bool.not_false, decide_eq_true_eq, decide_eq_false_iff_not, Int.not_lt, Int.not_le, ne_eq, Decidable.not_not, ← List.length_eq_zero_iff] at q21
                refine WC.skip ?_
                refine WE.meet (ks, _, _) ?_ ⟨rfl, rfl, rfl, rfl, rfl, rfl, rfl, trivial⟩ (List.Perm.refl _)
                try dsimp only
                exact ⟨by unfold kout; rw [if_neg (by omega)], hok⟩   -- meet 1
            · rintro ⟨ks2, vk2, K2⟩ hp
              try dsimp only at hp
              obtain ⟨hks2, hok2⟩ := hp
              show WC _ _ _ _ _ _ ([(0, I (cap : Int)), (1, v), (6, vk2), (7, vt2), (8, vl2), (9, I (i : Int)), (10, Pt ob 0)]) ([K2, T2, U2, [(ob, .cells #[.bool o2.g, S o2.k, S o2.v] 31 (0, 0))], A])
              have hkl := kout_len (ks := ks) (a := a) (by have := hat; rcases this with ⟨h, _⟩ | ⟨m, h, h2, _⟩ <;> omega)
              rw [← hks2] at hkl
              have hkl2 : ks2.length ≤ 100 := by rw [hkl]; split <;> omega
              refine WC.seq ?_
              refine WC.region ?_
              refine WL.q (oq_move rfl) rfl rfl rfl ?_
              refine WL.q (oq_loadS [_, _, _] agg31 ty31 rfl (.tail _ (.tail _ (.tail _ (.head _)))) (List.mem_singleton.2 rfl) rfl rfl) rfl rfl rfl ?_
              refine WL.appendO1 (us := sof o2) hok2 Try.underlying22 ty31 rfl (by decide) (by decide) (fun _ => rfl) rfl rfl (sof_one _) (by unfold maxLen; omega) (by omega) rfl rfl (fun _ => rfl) rfl fun v23 A23 u23 hok3 => ?_
              refine WL.q (oq_assign rfl) rfl rfl rfl ?_
              refine WL.nil ?_
              refine WE.then_normal ?_
              refine WC.sub (fr' := [(0, _), (1, _), (6, _), (7, _), (8, _), (9, _)]) ?_ ⟨rfl, rfl, rfl, rfl, rfl, rfl, trivial⟩
              refine WC.seq ?_
              refine WC.region ?_
              refine WL.q (oq_move rfl) rfl rfl rfl ?_
              refine WL.q (oq_len_rd hok3.rd Try.underlying22 rfl) rfl rfl rfl ?_
              refine WL.q (oq_move rfl) rfl rfl rfl ?_
              refine WL.q (oq_gtr rfl rfl) rfl rfl rfl ?_
              refine WL.nil ?_
              refine WE.then_normal ?_
              refine WC.sub (fr' := [(0, _), (1, _), (6, _), (7, _), (8, _), (9, _), (80, _)]) ?_ ⟨rfl, rfl, rfl, rfl, rfl, rfl, rfl, trivial⟩
              refine WC.cond rfl (fun q24 => ?_) (fun q24 => ?_)
              ·
                try simp only [Bool.not_eq_eq_eq_not, Bool.not_true, Bool.not_false, decide_eq_true_eq, decide_eq_false_iff_not, Int.not_lt, Int.not_le, ne_eq, Decidable.not_not, ← List.length_eq_zero_iff] at q24
                refine WC.region ?_
                refine WL.q (oq_move rfl) rfl rfl rfl ?_
                refine WL.sliceO hok3 Try.underlying22 ty31 rfl rfl (by omega) rfl rfl fun v25 hok4 => ?_
                refine WL.q (oq_assign rfl) rfl rfl rfl ?_
                refine WL.nil ?_
                refine WE.block_normal ?_
                refine WE.then_normal ?_
                refine WC.sub (fr' := [(0, _), (1, _), (6, _), (7, _), (8, _), (9, _)]) ?_ ⟨rfl, rfl, rfl, rfl, rfl, rfl, trivial⟩
                refine WC.region ?_
                refine WL.q (oq_move rfl) rfl rfl rfl ?_
                refine WL.q (oq_add rfl rfl (by rw [i64_lo, i64_hi]; (first | omega | (simp only [List.length_cons, List.length_nil, List.length_append, List.length_drop, List.length_take]; omega)))) rfl rfl rfl ?_
                refine WL.q (oq_assign rfl) rfl rfl rfl ?_
                refine WL.nil ?_
                refine WE.f3 ?_
                refine WE.lose hob ?_
                refine WE.again (i + 1, (ks2 ++ [o2]).drop 1, tx2, bs2, _, _, _, _, _, _) ?_ ?_ ⟨rfl, rfl, rfl, rfl, rfl, rfl, trivial⟩ (List.Perm.refl _)
                · try dsimp only   -- again 1
                  exact ⟨by omega, by rw [sst_next (by omega) hst, htx2, hbs2]; show (snext cap (rv ks) (l.getD i SO0), _, _) = _; rw [step_keep hc.1 hksl hat hok2k hg1 hg2, ← hks2, if_pos (by simp; omega)], OwO.of hok4 (by simp) (by rw [recs_snoc]; exact recs_drop _ 1), hot2, hou2⟩
                · (try dsimp only); omega
              ·
                try simp only [Bool.not_eq_eq_eq_not, Bool.not_true, Bool.not_false, decide_eq_true_eq, decide_eq_false_iff_not, Int.not_lt, Int.not_le, ne_eq, Decidable.not_not, ← List.length_eq_zero_iff] at q24
                refine WC.skip ?_
                refine WE.block_normal ?_
                refine WE.then_normal ?_
                refine WC.sub (fr' := [(0, _), (1, _), (6, _), (7, _), (8, _), (9, _)]) ?_ ⟨rfl, rfl, rfl, rfl, rfl, rfl, trivial⟩
                refine WC.region ?_
                refine WL.q (oq_move rfl) rfl rfl rfl ?_
                refine WL.q (oq_add rfl rfl (by rw [i64_lo, i64_hi]; (first | omega | (simp only [List.length_cons, List.length_nil, List.length_append, List.length_drop, List.length_take]; omega)))) rfl rfl rfl ?_
                refine WL.q (oq_assign rfl) rfl rfl rfl ?_
                refine WL.nil ?_
                refine WE.f3 ?_
                refine WE.lose hob ?_
                refine WE.again (i + 1, ks2 ++ [o2], tx2, bs2, _, _, _, _, _, _) ?_ ?_ ⟨rfl, rfl, rfl, rfl, rfl, rfl, trivial⟩ (List.Perm.refl _)
                · try dsimp only   -- again 2
                  exact ⟨by omega, by rw [sst_next (by omega) hst, htx2, hbs2]; show (snext cap (rv ks) (l.getD i SO0), _, _) = _; rw [step_keep hc.1 hksl hat hok2k hg1 hg2, ← hks2, if_neg (by simp; omega)], OwO.of hok3 (by simp) (recs_snoc _ _), hot2, hou2⟩
                · (try dsimp only); omega
    ·
      try simp only [Bool.not_eq_eq_eq_not, Bool.not_true, Bool.not_false, decide_eq_true_eq, decide_eq_false_iff_not, Int.not_lt, Int.not_le, ne_eq, Decidable.not_not, ← List.length_eq_zero_iff] at q5
      refine WC.exit ?_
      refine WE.then_exit ?_
      refine WE.then_exit ?_
      refine WE.block_same ?_
      refine WE.then_normal ?_
      refine WC.sub (fr' := [(7, _), (8, _)]) ?_ ⟨rfl, rfl, trivial⟩
      refine WC.seq ?_
      refine WC.region ?_
      refine WL.q (oq_move rfl) rfl rfl rfl ?_
      refine WL.q (oq_move rfl) rfl rfl rfl ?_
      refine WL.q (oq_assign rfl) rfl rfl rfl ?_
      refine WL.q (oq_assign rfl) rfl rfl rfl ?_
      refine WL.nil ?_
      refine WE.then_normal ?_
      refine WC.sub (fr' := [(4, _), (5, _)]) ?_ ⟨rfl, rfl, trivial⟩
      refine WC.ret ?_
      refine WE.forget hok.fresh ?_
      refine WE.cat ?_
      refine WE.endA (.inl rfl) (res2 Try.results9 rfl rfl) ?_ (fresh_cat (hot.fresh) (hou.fresh))
      -- end 0
      rw [List.take_of_length_le (by omega)] at hst
      rw [hst]
      exact ⟨vt, vl, T, U, rfl, rfl, hot.rd, hou.rd⟩

end Q4
end Go.Proofs.Ytjmlifpngnbomaa
