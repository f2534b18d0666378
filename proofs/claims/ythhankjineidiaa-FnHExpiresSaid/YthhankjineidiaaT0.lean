/- Walks of moments. -/
import Derived.Test.YthhankjineidiaaV6
import Derived.Test.YthhankjineidiaaP0
import Derived.Test.YthhankjineidiaaProg
namespace Go.Proofs.Ythhankjineidiaa
open Go Go.RowKit V
set_option linter.unusedSimpArgs false
set_option linter.unusedVariables false
set_option maxRecDepth 10000
namespace T0
theorem call19 : Callable Try.prog 19 := ⟨_, Try.func19, rfl, by kernel_rfl⟩
theorem call40 : Callable Try.prog 40 := ⟨_, Try.func40, rfl, by kernel_rfl⟩
theorem call41 : Callable Try.prog 41 := ⟨_, Try.func41, rfl, by kernel_rfl⟩
theorem call56 : Callable Try.prog 56 := ⟨_, Try.func56, rfl, by kernel_rfl⟩
theorem call57 : Callable Try.prog 57 := ⟨_, Try.func57, rfl, by kernel_rfl⟩
theorem call65 : Callable Try.prog 65 := ⟨_, Try.func65, rfl, by kernel_rfl⟩
theorem call66 : Callable Try.prog 66 := ⟨_, Try.func66, rfl, by kernel_rfl⟩
theorem flat2 : Flat Try.prog 2 := ⟨_, Try.underlying2, by simp⟩
theorem flat4 : Flat Try.prog 4 := ⟨_, Try.underlying4, by simp⟩
theorem flat21 : Flat Try.prog 21 := ⟨_, Try.underlying21, by simp⟩
theorem ty2 : Ty Try.prog 2 (.int .i64 0) 1 8 := ty_of (by kernel_rfl)
theorem ty4 : Ty Try.prog 4 (.bool false) 1 1 := ty_of (by kernel_rfl)
theorem ty21 : Ty Try.prog 21 (.int .i32 0) 1 4 := ty_of (by kernel_rfl)
theorem ty53 : Ty Try.prog 53 (.agg #[(.int .i64 0), (.int .i32 0), (S []), (.int .i64 0)]) 4 40 := ty_of (by kernel_rfl)
theorem ty56 : Ty Try.prog 56 (.agg #[(S []), (.bool false), (.int .i64 0), (.int .i32 0), (S []), (.int .i64 0)]) 6 64 := ty_of (by kernel_rfl)
theorem agg53 : Agg Try.prog 53 := agg_of Try.underlying53
theorem str53 : Str Try.prog 53 #[(0, 1), (1, 1), (2, 1), (3, 1)] := ⟨_, Try.underlying53, fun w => by kernel_rfl⟩
theorem str56 : Str Try.prog 56 #[(0, 1), (1, 1), (2, 4)] := ⟨_, Try.underlying56, fun w => by kernel_rfl⟩
theorem fld53_0 : Fld Try.prog 53 0 0 2 := fld_of Try.underlying53 rfl rfl rfl ty2 (by decide)
theorem fld53_1 : Fld Try.prog 53 1 1 21 := fld_of Try.underlying53 rfl rfl rfl ty21 (by decide)
theorem fld56_1 : Fld Try.prog 56 1 1 4 := fld_of Try.underlying56 rfl rfl rfl ty4 (by decide)
theorem fld56_2 : Fld Try.prog 56 2 2 53 := fld_of Try.underlying56 rfl rfl rfl ty53 (by decide)

abbrev tmV (s n : Int) : Value := .agg #[I s, .int .i32 n, S [85, 84, 67], I 0]
theorem tm_eq {s s' n n' : Int} (h : s = s') (h2 : n = n') : tmV s n = tmV s' n' := by rw [h, h2]
/-- (given.example/pub-tinwright/pub/ztime.Time).sec -/
theorem sec (s n : Int) : Fn0 Try.prog 65 [tmV s n] (I s) := by
  refine Fn0.enter (n := 5) Try.func65 rfl rfl fun w0 => ?_
  refine WC.sub (fr' := [(0, _)]) ?_ ⟨rfl, trivial⟩
  refine WC.seq ?_
  refine WC.region ?_
  refine WL.box rfl rfl rfl fun b0_0 hb0_0 => ?_
  refine WL.q (oq_assign rfl) rfl rfl rfl ?_
  refine WL.nil ?_
  refine WE.then_normal ?_
  refine WC.sub (fr' := [(1, _)]) ?_ ⟨rfl, trivial⟩
  refine WC.seq ?_
  refine WC.region ?_
  refine WL.q (oq_fieldAddr fld53_0 rfl) rfl rfl rfl ?_
  refine WL.q (oq_load flat2 rfl (.head _) (List.mem_singleton.2 rfl) rfl) rfl rfl rfl ?_
  refine WL.q (oq_assign rfl) rfl rfl rfl ?_
  refine WL.nil ?_
  refine WE.then_normal ?_
  refine WC.sub (fr' := [(2, _)]) ?_ ⟨rfl, trivial⟩
  refine WC.ret ?_
  refine WE.lose hb0_0 ?_
  refine WE.end0 (.inl rfl) (res1 Try.results65 rfl) ?_
  -- end 0
  rfl

/-- (given.example/pub-tinwright/pub/ztime.Time).nsec -/
theorem nsec (s n : Int) : Fn0 Try.prog 66 [tmV s n] (.int .i32 n) := by
  refine Fn0.enter (n := 5) Try.func66 rfl rfl fun w0 => ?_
  refine WC.sub (fr' := [(0, _)]) ?_ ⟨rfl, trivial⟩
  refine WC.seq ?_
  refine WC.region ?_
  refine WL.box rfl rfl rfl fun b0_0 hb0_0 => ?_
  refine WL.q (oq_assign rfl) rfl rfl rfl ?_
  refine WL.nil ?_
  refine WE.then_normal ?_
  refine WC.sub (fr' := [(1, _)]) ?_ ⟨rfl, trivial⟩
  refine WC.seq ?_
  refine WC.region ?_
  refine WL.q (oq_fieldAddr fld53_1 rfl) rfl rfl rfl ?_
  refine WL.q (oq_load flat21 rfl (.head _) (List.mem_singleton.2 rfl) rfl) rfl rfl rfl ?_
  refine WL.q (oq_assign rfl) rfl rfl rfl ?_
  refine WL.nil ?_
  refine WE.then_normal ?_
  refine WC.sub (fr' := [(2, _)]) ?_ ⟨rfl, trivial⟩
  refine WC.ret ?_
  refine WE.lose hb0_0 ?_
  refine WE.end0 (.inl rfl) (res1 Try.results66 rfl) ?_
  -- end 0
  rfl

/-- (given.example/pub-tinwright/pub/ztime.Time).Equal -/
theorem equal (s n t m : Int) : Fn0 Try.prog 56 [tmV s n, tmV t m] (.bool (decide (s = t) && decide (n = m))) := by
  refine Fn0.enter (n := 17) Try.func56 rfl rfl fun w0 => ?_
  refine WC.sub (fr' := [(0, _), (1, _)]) ?_ ⟨rfl, rfl, trivial⟩
  refine WC.seq ?_
  refine WC.region ?_
  refine WL.box rfl rfl rfl fun b0_0 hb0_0 => ?_
  refine WL.box rfl rfl rfl fun b0_1 hb0_1 => ?_
  refine WL.q (oq_assign rfl) rfl rfl rfl ?_
  refine WL.nil ?_
  refine WE.then_normal ?_
  refine WC.sub (fr' := [(2, _), (3, _)]) ?_ ⟨rfl, rfl, trivial⟩
  refine WC.seq ?_
  refine WC.quiet (by kernel_rfl) (by kernel_rfl) ?_
  refine WQ.q (oq_loadS [_, _, _, _] agg53 ty53 rfl (.tail _ (.head _)) (List.mem_singleton.2 rfl) rfl rfl) rfl rfl rfl ?_
  refine WQ.qc (oq_call (sec _ _) call65 rfl) rfl rfl rfl ?_
  refine WQ.q (oq_loadS [_, _, _, _] agg53 ty53 rfl (.head _) (List.mem_singleton.2 rfl) rfl rfl) rfl rfl rfl ?_
  refine WQ.qc (oq_call (sec _ _) call65 rfl) rfl rfl rfl ?_
  refine WQ.q (oq_eql rfl rfl) rfl rfl rfl ?_
  refine WQ.q (oq_move rfl) rfl rfl rfl ?_
  refine WQ.split 10 rfl (fun s1_5 => ?_) (fun s1_5 => ?_)
  ·
    try simp only [Bool.not_eq_eq_eq_not, Bool.not_true, Bool.not_false, decide_eq_true_eq, decide_eq_false_iff_not, Int.not_lt, Int.not_le, ne_eq, Decidable.not_not, ← List.length_eq_zero_iff] at s1_5
    refine WQ.q (oq_loadS [_, _, _, _] agg53 ty53 rfl (.tail _ (.head _)) (List.mem_singleton.2 rfl) rfl rfl) rfl rfl rfl ?_
    refine WQ.qc (oq_call (nsec _ _) call66 rfl) rfl rfl rfl ?_
    refine WQ.q (oq_loadS [_, _, _, _] agg53 ty53 rfl (.head _) (List.mem_singleton.2 rfl) rfl rfl) rfl rfl rfl ?_
    refine WQ.qc (oq_call (nsec _ _) call66 rfl) rfl rfl rfl ?_
    refine WQ.q (oq_eql rfl rfl) rfl rfl rfl ?_
    refine WQ.q (oq_pick_t rfl rfl) rfl rfl rfl ?_
    refine WQ.q (oq_assign rfl) rfl rfl rfl ?_
    refine WQ.nil ?_
    refine WE.then_normal ?_
    refine WC.sub (fr' := [(4, _)]) ?_ ⟨rfl, trivial⟩
    refine WC.ret ?_
    refine WE.lose hb0_1 ?_
    refine WE.lose hb0_0 ?_
    refine WE.end0 (.inl rfl) (res1 Try.results56 rfl) ?_
    -- end 0
    first | rfl | (simp_all; done)
  ·
    try simp only [Bool.not_eq_eq_eq_not, Bool.not_true, Bool.not_false, decide_eq_true_eq, decide_eq_false_iff_not, Int.not_lt, Int.not_le, ne_eq, Decidable.not_not, ← List.length_eq_zero_iff] at s1_5
    refine WQ.skip rfl rfl rfl ?_
    refine WQ.skip rfl rfl rfl ?_
    refine WQ.skip rfl rfl rfl ?_
    refine WQ.skip rfl rfl rfl ?_
    refine WQ.skip rfl rfl rfl ?_
    refine WQ.q (oq_pick_f rfl rfl) rfl rfl rfl ?_
    refine WQ.q (oq_assign rfl) rfl rfl rfl ?_
    refine WQ.nil ?_
    refine WE.then_normal ?_
    refine WC.sub (fr' := [(4, _)]) ?_ ⟨rfl, trivial⟩
    refine WC.ret ?_
    refine WE.lose hb0_1 ?_
    refine WE.lose hb0_0 ?_
    refine WE.end0 (.inl rfl) (res1 Try.results56 rfl) ?_
    -- end 1
    first | rfl | (simp_all; done)

/-- (given.example/pub-tinwright/pub/ztime.Time).After -/
theorem after (s n t m : Int) : Fn0 Try.prog 57 [tmV s n, tmV t m] (.bool (decide (t < s) || (decide (s = t) && decide (m < n)))) := by
  refine Fn0.enter (n := 26) Try.func57 rfl rfl fun w0 => ?_
  refine WC.sub (fr' := [(0, _), (1, _)]) ?_ ⟨rfl, rfl, trivial⟩
  refine WC.seq ?_
  refine WC.region ?_
  refine WL.box rfl rfl rfl fun b0_0 hb0_0 => ?_
  refine WL.box rfl rfl rfl fun b0_1 hb0_1 => ?_
  refine WL.q (oq_assign rfl) rfl rfl rfl ?_
  refine WL.nil ?_
  refine WE.then_normal ?_
  refine WC.sub (fr' := [(2, _), (3, _)]) ?_ ⟨rfl, rfl, trivial⟩
  refine WC.seq ?_
  refine WC.region ?_
  refine WL.q (oq_loadS [_, _, _, _] agg53 ty53 rfl (.tail _ (.head _)) (List.mem_singleton.2 rfl) rfl rfl) rfl rfl rfl ?_
  refine WL.qc (oq_call (sec _ _) call65 rfl) rfl rfl rfl ?_
  refine WL.q (oq_assign rfl) rfl rfl rfl ?_
  refine WL.nil ?_
  refine WE.then_normal ?_
  refine WC.sub (fr' := [(2, _), (3, _), (5, _)]) ?_ ⟨rfl, rfl, rfl, trivial⟩
  refine WC.seq ?_
  refine WC.region ?_
  refine WL.q (oq_loadS [_, _, _, _] agg53 ty53 rfl (.head _) (List.mem_singleton.2 rfl) rfl rfl) rfl rfl rfl ?_
  refine WL.qc (oq_call (sec _ _) call65 rfl) rfl rfl rfl ?_
  refine WL.q (oq_assign rfl) rfl rfl rfl ?_
  refine WL.nil ?_
  refine WE.then_normal ?_
  refine WC.sub (fr' := [(2, _), (3, _), (5, _), (6, _)]) ?_ ⟨rfl, rfl, rfl, rfl, trivial⟩
  refine WC.seq ?_
  refine WC.quiet (by kernel_rfl) (by kernel_rfl) ?_
  refine WQ.q (oq_move rfl) rfl rfl rfl ?_
  refine WQ.q (oq_move rfl) rfl rfl rfl ?_
  refine WQ.q (oq_gtr rfl rfl) rfl rfl rfl ?_
  refine WQ.q (oq_move rfl) rfl rfl rfl ?_
  refine WQ.split 14 rfl (fun s3_3 => ?_) (fun s3_3 => ?_)
  ·
    try simp only [Bool.not_eq_eq_eq_not, Bool.not_true, Bool.not_false, decide_eq_true_eq, decide_eq_false_iff_not, Int.not_lt, Int.not_le, ne_eq, Decidable.not_not, ← List.length_eq_zero_iff] at s3_3
    refine WQ.skip rfl rfl rfl ?_
    refine WQ.skip rfl rfl rfl ?_
    refine WQ.skip rfl rfl rfl ?_
    refine WQ.skip rfl rfl rfl ?_
    refine WQ.skip rfl rfl rfl ?_
    refine WQ.skip rfl rfl rfl ?_
    refine WQ.skip rfl rfl rfl ?_
    refine WQ.skip rfl rfl rfl ?_
    refine WQ.skip rfl rfl rfl ?_
    refine WQ.skip rfl rfl rfl ?_
    refine WQ.q (oq_pick_t rfl rfl) rfl rfl rfl ?_
    refine WQ.q (oq_assign rfl) rfl rfl rfl ?_
    refine WQ.nil ?_
    refine WE.then_normal ?_
    refine WC.sub (fr' := [(4, _)]) ?_ ⟨rfl, trivial⟩
    refine WC.ret ?_
    refine WE.lose hb0_1 ?_
    refine WE.lose hb0_0 ?_
    refine WE.end0 (.inl rfl) (res1 Try.results57 rfl) ?_
    -- end 0
    first | rfl | (simp_all; done) | (simp_all; omega)
  ·
    try simp only [Bool.not_eq_eq_eq_not, Bool.not_true, Bool.not_false, decide_eq_true_eq, decide_eq_false_iff_not, Int.not_lt, Int.not_le, ne_eq, Decidable.not_not, ← List.length_eq_zero_iff] at s3_3
    refine WQ.q (oq_move rfl) rfl rfl rfl ?_
    refine WQ.q (oq_move rfl) rfl rfl rfl ?_
    refine WQ.q (oq_eql rfl rfl) rfl rfl rfl ?_
    refine WQ.q (oq_move rfl) rfl rfl rfl ?_
    refine WQ.split 18 rfl (fun s3_7 => ?_) (fun s3_7 => ?_)
    ·
      try simp only [Bool.not_eq_eq_eq_not, Bool.not_true, Bool.not_false, decide_eq_true_eq, decide_eq_false_iff_not, Int.not_lt, Int.not_le, ne_eq, Decidable.not_not, ← List.length_eq_zero_iff] at s3_7
      refine WQ.q (oq_loadS [_, _, _, _] agg53 ty53 rfl (.tail _ (.head _)) (List.mem_singleton.2 rfl) rfl rfl) rfl rfl rfl ?_
      refine WQ.qc (oq_call (nsec _ _) call66 rfl) rfl rfl rfl ?_
      refine WQ.q (oq_loadS [_, _, _, _] agg53 ty53 rfl (.head _) (List.mem_singleton.2 rfl) rfl rfl) rfl rfl rfl ?_
      refine WQ.qc (oq_call (nsec _ _) call66 rfl) rfl rfl rfl ?_
      refine WQ.q (oq_gtr rfl rfl) rfl rfl rfl ?_
      refine WQ.q (oq_pick_t rfl rfl) rfl rfl rfl ?_
      refine WQ.q (oq_pick_f rfl rfl) rfl rfl rfl ?_
      refine WQ.q (oq_assign rfl) rfl rfl rfl ?_
      refine WQ.nil ?_
      refine WE.then_normal ?_
      refine WC.sub (fr' := [(4, _)]) ?_ ⟨rfl, trivial⟩
      refine WC.ret ?_
      refine WE.lose hb0_1 ?_
      refine WE.lose hb0_0 ?_
      refine WE.end0 (.inl rfl) (res1 Try.results57 rfl) ?_
      -- end 1
      first | rfl | (simp_all; done) | (simp_all; omega)
    ·
      try simp only [Bool.not_eq_eq_eq_not, Bool.not_true, Bool.not_false, decide_eq_true_eq, decide_eq_false_iff_not, Int.not_lt, Int.not_le, ne_eq, Decidable.not_not, ← List.length_eq_zero_iff] at s3_7
      refine WQ.skip rfl rfl rfl ?_
      refine WQ.skip rfl rfl rfl ?_
      refine WQ.skip rfl rfl rfl ?_
      refine WQ.skip rfl rfl rfl ?_
      refine WQ.skip rfl rfl rfl ?_
      refine WQ.q (oq_pick_f rfl rfl) rfl rfl rfl ?_
      refine WQ.q (oq_pick_f rfl rfl) rfl rfl rfl ?_
      refine WQ.q (oq_assign rfl) rfl rfl rfl ?_
      refine WQ.nil ?_
      refine WE.then_normal ?_
      refine WC.sub (fr' := [(4, _)]) ?_ ⟨rfl, trivial⟩
      refine WC.ret ?_
      refine WE.lose hb0_1 ?_
      refine WE.lose hb0_0 ?_
      refine WE.end0 (.inl rfl) (res1 Try.results57 rfl) ?_
      -- end 2
      first | rfl | (simp_all; done) | (simp_all; omega)

/-- given.example/pub-tinwright/pub/ztime.Unix -/
theorem unix (s n : Int) (h1 : -1000000000000 ≤ s) (h2 : s ≤ 1000000000000) (h3 : -9223372036854775808 ≤ n) (h4 : n ≤ 9223372036854775807) : Fn0 Try.prog 40 [I s, I n] (tmV (s + n / 1000000000 + 62135596800) (n % 1000000000)) := by
  refine Fn0.enter (n := 32) Try.func40 rfl rfl fun w0 => ?_
  refine WC.sub (fr' := [(0, _), (1, _)]) ?_ ⟨rfl, rfl, trivial⟩
  refine WC.seq ?_
  refine WC.region ?_
  refine WL.alloc ty53 rfl rfl fun b0_0 hb0_0 => ?_
  refine WL.nil ?_
  refine WE.then_normal ?_
  refine WC.sub (fr' := [(0, _), (1, _), (4, _)]) ?_ ⟨rfl, rfl, rfl, trivial⟩
  refine WC.seq ?_
  refine WC.seq ?_
  refine WC.region ?_
  refine WL.q (oq_move rfl) rfl rfl rfl ?_
  refine WL.q (oq_lss rfl rfl) rfl rfl rfl ?_
  refine WL.q (oq_move rfl) rfl rfl rfl ?_
  refine WL.split 8 rfl (fun s1_2 => ?_) (fun s1_2 => ?_)
  ·
    try simp only [Bool.not_eq_eq_eq_not, Bool.not_true, Bool.not_false, decide_eq_true_eq, decide_eq_false_iff_not, Int.not_lt, Int.not_le, ne_eq, Decidable.not_not, ← List.length_eq_zero_iff] at s1_2
    refine WL.skip rfl rfl rfl ?_
    refine WL.skip rfl rfl rfl ?_
    refine WL.q (oq_pick_t rfl rfl) rfl rfl rfl ?_
    refine WL.nil ?_
    refine WE.then_normal ?_
    refine WC.sub (fr' := [(0, _), (1, _), (4, _), (11, _)]) ?_ ⟨rfl, rfl, rfl, rfl, trivial⟩
    refine WC.cond_t rfl ?_
    refine WC.seq ?_
    refine WC.region ?_
    refine WL.q (oq_move rfl) rfl rfl rfl ?_
    refine WL.q (oq_tquo rfl rfl (by omega) (by rw [i64_lo, i64_hi]; omega)) rfl rfl rfl ?_
    refine WL.q (oq_assign rfl) rfl rfl rfl ?_
    refine WL.nil ?_
    refine WE.then_normal ?_
    refine WC.sub (fr' := [(0, _), (1, _), (4, _), (5, _)]) ?_ ⟨rfl, rfl, rfl, rfl, trivial⟩
    refine WC.seq ?_
    have hk := tdiv_b n 1000000000 (by decide)
    generalize n.tdiv 1000000000 = k at *
    refine WC.region ?_
    refine WL.q (oq_move rfl) rfl rfl rfl ?_
    refine WL.q (oq_move rfl) rfl rfl rfl ?_
    refine WL.q (oq_add rfl rfl (by rw [i64_lo, i64_hi]; (first | omega | (simp only [List.length_cons, List.length_nil, List.length_append, List.length_drop, List.length_take]; omega)))) rfl rfl rfl ?_
    refine WL.q (oq_assign rfl) rfl rfl rfl ?_
    refine WL.nil ?_
    refine WE.then_normal ?_
    refine WC.sub (fr' := [(0, _), (1, _), (4, _), (5, _)]) ?_ ⟨rfl, rfl, rfl, rfl, trivial⟩
    refine WC.seq ?_
    refine WC.region ?_
    refine WL.q (oq_move rfl) rfl rfl rfl ?_
    refine WL.q (oq_move rfl) rfl rfl rfl ?_
    refine WL.q (oq_mul rfl rfl (by rw [i64_lo, i64_hi]; (first | omega | (simp only [List.length_cons, List.length_nil, List.length_append, List.length_drop, List.length_take]; omega)))) rfl rfl rfl ?_
    refine WL.q (oq_sub rfl rfl (by rw [i64_lo, i64_hi]; (first | omega | (simp only [List.length_cons, List.length_nil, List.length_append, List.length_drop, List.length_take]; omega)))) rfl rfl rfl ?_
    refine WL.q (oq_assign rfl) rfl rfl rfl ?_
    refine WL.nil ?_
    refine WE.then_normal ?_
    refine WC.sub (fr' := [(0, _), (1, _), (4, _)]) ?_ ⟨rfl, rfl, rfl, trivial⟩
    refine WC.seq ?_
    refine WC.region ?_
    refine WL.q (oq_move rfl) rfl rfl rfl ?_
    refine WL.q (oq_lss rfl rfl) rfl rfl rfl ?_
    refine WL.nil ?_
    refine WE.then_normal ?_
    refine WC.sub (fr' := [(0, _), (1, _), (4, _), (22, _)]) ?_ ⟨rfl, rfl, rfl, rfl, trivial⟩
    refine WC.cond rfl (fun q5 => ?_) (fun q5 => ?_)
    ·
      try simp only [Bool.not_eq_eq_eq_not, Bool.not_true, Bool.not_false, decide_eq_true_eq, decide_eq_false_iff_not, Int.not_lt, Int.not_le, ne_eq, Decidable.not_not, ← List.length_eq_zero_iff] at q5
      refine WC.seq ?_
      refine WC.region ?_
      refine WL.q (oq_move rfl) rfl rfl rfl ?_
      refine WL.q (oq_add rfl rfl (by rw [i64_lo, i64_hi]; (first | omega | (simp only [List.length_cons, List.length_nil, List.length_append, List.length_drop, List.length_take]; omega)))) rfl rfl rfl ?_
      refine WL.q (oq_assign rfl) rfl rfl rfl ?_
      refine WL.nil ?_
      refine WE.then_normal ?_
      refine WC.sub (fr' := [(0, _), (1, _), (4, _)]) ?_ ⟨rfl, rfl, rfl, trivial⟩
      refine WC.region ?_
      refine WL.q (oq_move rfl) rfl rfl rfl ?_
      refine WL.q (oq_sub rfl rfl (by rw [i64_lo, i64_hi]; (first | omega | (simp only [List.length_cons, List.length_nil, List.length_append, List.length_drop, List.length_take]; omega)))) rfl rfl rfl ?_
      refine WL.q (oq_assign rfl) rfl rfl rfl ?_
      refine WL.nil ?_
      refine WE.then_normal ?_
      refine WC.sub (fr' := [(0, _), (1, _), (4, _)]) ?_ ⟨rfl, rfl, rfl, trivial⟩
      refine WC.seq ?_
      refine WC.region ?_
      refine WL.q (oq_move rfl) rfl rfl rfl ?_
      refine WL.q (oq_add rfl rfl (by rw [i64_lo, i64_hi]; (first | omega | (simp only [List.length_cons, List.length_nil, List.length_append, List.length_drop, List.length_take]; omega)))) rfl rfl rfl ?_
      refine WL.q (oq_move rfl) rfl rfl rfl ?_
      refine WL.q (oq_conv Try.underlying2 Try.underlying21 rfl (by rw [i32_lo, i32_hi]; (first | omega | (simp only [List.length_cons, List.length_nil, List.length_append, List.length_drop, List.length_take]; omega)))) rfl rfl rfl ?_
      refine WL.q (oq_build #[_, _, _, _] str53 ty53 rfl rfl) rfl rfl rfl ?_
      refine WL.storeS #[_, _, _, _] ty53 rfl rfl rfl rfl (Nat.le_of_ble_eq_true rfl) rfl rfl ?_
      refine WL.nil ?_
      refine WE.then_normal ?_
      refine WC.sub (fr' := [(4, _)]) ?_ ⟨rfl, trivial⟩
      refine WC.ret ?_
      refine WE.endD0 (.inl rfl) (rs1 Try.results40 (rv_cellS [_, _, _, _] agg53 ty53 rfl (.head _) (List.mem_singleton.2 rfl) rfl rfl)) (dr_lose hb0_0 dr_refl) ?_
      -- end 0
      first | (exfalso; omega) | exact tm_eq (by omega) (by omega)
    ·
      try simp only [Bool.not_eq_eq_eq_not, Bool.not_true, Bool.not_false, decide_eq_true_eq, decide_eq_false_iff_not, Int.not_lt, Int.not_le, ne_eq, Decidable.not_not, ← List.length_eq_zero_iff] at q5
      refine WC.skip ?_
      refine WE.then_normal ?_
      refine WC.sub (fr' := [(0, _), (1, _), (4, _)]) ?_ ⟨rfl, rfl, rfl, trivial⟩
      refine WC.seq ?_
      refine WC.region ?_
      refine WL.q (oq_move rfl) rfl rfl rfl ?_
      refine WL.q (oq_add rfl rfl (by rw [i64_lo, i64_hi]; (first | omega | (simp only [List.length_cons, List.length_nil, List.length_append, List.length_drop, List.length_take]; omega)))) rfl rfl rfl ?_
      refine WL.q (oq_move rfl) rfl rfl rfl ?_
      refine WL.q (oq_conv Try.underlying2 Try.underlying21 rfl (by rw [i32_lo, i32_hi]; (first | omega | (simp only [List.length_cons, List.length_nil, List.length_append, List.length_drop, List.length_take]; omega)))) rfl rfl rfl ?_
      refine WL.q (oq_build #[_, _, _, _] str53 ty53 rfl rfl) rfl rfl rfl ?_
      refine WL.storeS #[_, _, _, _] ty53 rfl rfl rfl rfl (Nat.le_of_ble_eq_true rfl) rfl rfl ?_
      refine WL.nil ?_
      refine WE.then_normal ?_
      refine WC.sub (fr' := [(4, _)]) ?_ ⟨rfl, trivial⟩
      refine WC.ret ?_
      refine WE.endD0 (.inl rfl) (rs1 Try.results40 (rv_cellS [_, _, _, _] agg53 ty53 rfl (.head _) (List.mem_singleton.2 rfl) rfl rfl)) (dr_lose hb0_0 dr_refl) ?_
      -- end 1
      first | (exfalso; omega) | exact tm_eq (by omega) (by omega)
  ·
    try simp only [Bool.not_eq_eq_eq_not, Bool.not_true, Bool.not_false, decide_eq_true_eq, decide_eq_false_iff_not, Int.not_lt, Int.not_le, ne_eq, Decidable.not_not, ← List.length_eq_zero_iff] at s1_2
    refine WL.q (oq_move rfl) rfl rfl rfl ?_
    refine WL.q (oq_geq rfl rfl) rfl rfl rfl ?_
    refine WL.q (oq_pick_f rfl rfl) rfl rfl rfl ?_
    refine WL.nil ?_
    refine WE.then_normal ?_
    refine WC.sub (fr' := [(0, _), (1, _), (4, _), (11, _)]) ?_ ⟨rfl, rfl, rfl, rfl, trivial⟩
    refine WC.cond rfl (fun q1 => ?_) (fun q1 => ?_)
    ·
      try simp only [Bool.not_eq_eq_eq_not, Bool.not_true, Bool.not_false, decide_eq_true_eq, decide_eq_false_iff_not, Int.not_lt, Int.not_le, ne_eq, Decidable.not_not, ← List.length_eq_zero_iff] at q1
      refine WC.seq ?_
      refine WC.region ?_
      refine WL.q (oq_move rfl) rfl rfl rfl ?_
      refine WL.q (oq_tquo rfl rfl (by omega) (by rw [i64_lo, i64_hi]; omega)) rfl rfl rfl ?_
      refine WL.q (oq_assign rfl) rfl rfl rfl ?_
      refine WL.nil ?_
      refine WE.then_normal ?_
      refine WC.sub (fr' := [(0, _), (1, _), (4, _), (5, _)]) ?_ ⟨rfl, rfl, rfl, rfl, trivial⟩
      refine WC.seq ?_
      have hk := tdiv_b n 1000000000 (by decide)
      generalize n.tdiv 1000000000 = k at *
      refine WC.region ?_
      refine WL.q (oq_move rfl) rfl rfl rfl ?_
      refine WL.q (oq_move rfl) rfl rfl rfl ?_
      refine WL.q (oq_add rfl rfl (by rw [i64_lo, i64_hi]; (first | omega | (simp only [List.length_cons, List.length_nil, List.length_append, List.length_drop, List.length_take]; omega)))) rfl rfl rfl ?_
      refine WL.q (oq_assign rfl) rfl rfl rfl ?_
      refine WL.nil ?_
      refine WE.then_normal ?_
      refine WC.sub (fr' := [(0, _), (1, _), (4, _), (5, _)]) ?_ ⟨rfl, rfl, rfl, rfl, trivial⟩
      refine WC.seq ?_
      refine WC.region ?_
      refine WL.q (oq_move rfl) rfl rfl rfl ?_
      refine WL.q (oq_move rfl) rfl rfl rfl ?_
      refine WL.q (oq_mul rfl rfl (by rw [i64_lo, i64_hi]; (first | omega | (simp only [List.length_cons, List.length_nil, List.length_append, List.length_drop, List.length_take]; omega)))) rfl rfl rfl ?_
      refine WL.q (oq_sub rfl rfl (by rw [i64_lo, i64_hi]; (first | omega | (simp only [List.length_cons, List.length_nil, List.length_append, List.length_drop, List.length_take]; omega)))) rfl rfl rfl ?_
      refine WL.q (oq_assign rfl) rfl rfl rfl ?_
      refine WL.nil ?_
      refine WE.then_normal ?_
      refine WC.sub (fr' := [(0, _), (1, _), (4, _)]) ?_ ⟨rfl, rfl, rfl, trivial⟩
      refine WC.seq ?_
      refine WC.region ?_
      refine WL.q (oq_move rfl) rfl rfl rfl ?_
      refine WL.q (oq_lss rfl rfl) rfl rfl rfl ?_
      refine WL.nil ?_
      refine WE.then_normal ?_
      refine WC.sub (fr' := [(0, _), (1, _), (4, _), (22, _)]) ?_ ⟨rfl, rfl, rfl, rfl, trivial⟩
      refine WC.cond rfl (fun q5 => ?_) (fun q5 => ?_)
      ·
        try simp only [Bool.not_eq_eq_eq_not, Bool.not_true, Bool.not_false, decide_eq_true_eq, decide_eq_false_iff_not, Int.not_lt, Int.not_le, ne_eq, Decidable.not_not, ← List.length_eq_zero_iff] at q5
        refine WC.seq ?_
        refine WC.region ?_
        refine WL.q (oq_move rfl) rfl rfl rfl ?_
        refine WL.q (oq_add rfl rfl (by rw [i64_lo, i64_hi]; (first | omega | (simp only [List.length_cons, List.length_nil, List.length_append, List.length_drop, List.length_take]; omega)))) rfl rfl rfl ?_
        refine WL.q (oq_assign rfl) rfl rfl rfl ?_
        refine WL.nil ?_
        refine WE.then_normal ?_
        refine WC.sub (fr' := [(0, _), (1, _), (4, _)]) ?_ ⟨rfl, rfl, rfl, trivial⟩
        refine WC.region ?_
        refine WL.q (oq_move rfl) rfl rfl rfl ?_
        refine WL.q (oq_sub rfl rfl (by rw [i64_lo, i64_hi]; (first | omega | (simp only [List.length_cons, List.length_nil, List.length_append, List.length_drop, List.length_take]; omega)))) rfl rfl rfl ?_
        refine WL.q (oq_assign rfl) rfl rfl rfl ?_
        refine WL.nil ?_
        refine WE.then_normal ?_
        refine WC.sub (fr' := [(0, _), (1, _), (4, _)]) ?_ ⟨rfl, rfl, rfl, trivial⟩
        refine WC.seq ?_
        refine WC.region ?_
        refine WL.q (oq_move rfl) rfl rfl rfl ?_
        refine WL.q (oq_add rfl rfl (by rw [i64_lo, i64_hi]; (first | omega | (simp only [List.length_cons, List.length_nil, List.length_append, List.length_drop, List.length_take]; omega)))) rfl rfl rfl ?_
        refine WL.q (oq_move rfl) rfl rfl rfl ?_
        refine WL.q (oq_conv Try.underlying2 Try.underlying21 rfl (by rw [i32_lo, i32_hi]; (first | omega | (simp only [List.length_cons, List.length_nil, List.length_append, List.length_drop, List.length_take]; omega)))) rfl rfl rfl ?_
        refine WL.q (oq_build #[_, _, _, _] str53 ty53 rfl rfl) rfl rfl rfl ?_
        refine WL.storeS #[_, _, _, _] ty53 rfl rfl rfl rfl (Nat.le_of_ble_eq_true rfl) rfl rfl ?_
        refine WL.nil ?_
        refine WE.then_normal ?_
        refine WC.sub (fr' := [(4, _)]) ?_ ⟨rfl, trivial⟩
        refine WC.ret ?_
        refine WE.endD0 (.inl rfl) (rs1 Try.results40 (rv_cellS [_, _, _, _] agg53 ty53 rfl (.head _) (List.mem_singleton.2 rfl) rfl rfl)) (dr_lose hb0_0 dr_refl) ?_
        -- end 2
        first | (exfalso; omega) | exact tm_eq (by omega) (by omega)
      ·
        try simp only [Bool.not_eq_eq_eq_not, Bool.not_true, Bool.not_false, decide_eq_true_eq, decide_eq_false_iff_not, Int.not_lt, Int.not_le, ne_eq, Decidable.not_not, ← List.length_eq_zero_iff] at q5
        refine WC.skip ?_
        refine WE.then_normal ?_
        refine WC.sub (fr' := [(0, _), (1, _), (4, _)]) ?_ ⟨rfl, rfl, rfl, trivial⟩
        refine WC.seq ?_
        refine WC.region ?_
        refine WL.q (oq_move rfl) rfl rfl rfl ?_
        refine WL.q (oq_add rfl rfl (by rw [i64_lo, i64_hi]; (first | omega | (simp only [List.length_cons, List.length_nil, List.length_append, List.length_drop, List.length_take]; omega)))) rfl rfl rfl ?_
        refine WL.q (oq_move rfl) rfl rfl rfl ?_
        refine WL.q (oq_conv Try.underlying2 Try.underlying21 rfl (by rw [i32_lo, i32_hi]; (first | omega | (simp only [List.length_cons, List.length_nil, List.length_append, List.length_drop, List.length_take]; omega)))) rfl rfl rfl ?_
        refine WL.q (oq_build #[_, _, _, _] str53 ty53 rfl rfl) rfl rfl rfl ?_
        refine WL.storeS #[_, _, _, _] ty53 rfl rfl rfl rfl (Nat.le_of_ble_eq_true rfl) rfl rfl ?_
        refine WL.nil ?_
        refine WE.then_normal ?_
        refine WC.sub (fr' := [(4, _)]) ?_ ⟨rfl, trivial⟩
        refine WC.ret ?_
        refine WE.endD0 (.inl rfl) (rs1 Try.results40 (rv_cellS [_, _, _, _] agg53 ty53 rfl (.head _) (List.mem_singleton.2 rfl) rfl rfl)) (dr_lose hb0_0 dr_refl) ?_
        -- end 3
        first | (exfalso; omega) | exact tm_eq (by omega) (by omega)
    ·
      try simp only [Bool.not_eq_eq_eq_not, Bool.not_true, Bool.not_false, decide_eq_true_eq, decide_eq_false_iff_not, Int.not_lt, Int.not_le, ne_eq, Decidable.not_not, ← List.length_eq_zero_iff] at q1
      refine WC.skip ?_
      refine WE.then_normal ?_
      refine WC.sub (fr' := [(0, _), (1, _), (4, _)]) ?_ ⟨rfl, rfl, rfl, trivial⟩
      refine WC.seq ?_
      refine WC.region ?_
      refine WL.q (oq_move rfl) rfl rfl rfl ?_
      refine WL.q (oq_add rfl rfl (by rw [i64_lo, i64_hi]; (first | omega | (simp only [List.length_cons, List.length_nil, List.length_append, List.length_drop, List.length_take]; omega)))) rfl rfl rfl ?_
      refine WL.q (oq_move rfl) rfl rfl rfl ?_
      refine WL.q (oq_conv Try.underlying2 Try.underlying21 rfl (by rw [i32_lo, i32_hi]; (first | omega | (simp only [List.length_cons, List.length_nil, List.length_append, List.length_drop, List.length_take]; omega)))) rfl rfl rfl ?_
      refine WL.q (oq_build #[_, _, _, _] str53 ty53 rfl rfl) rfl rfl rfl ?_
      refine WL.storeS #[_, _, _, _] ty53 rfl rfl rfl rfl (Nat.le_of_ble_eq_true rfl) rfl rfl ?_
      refine WL.nil ?_
      refine WE.then_normal ?_
      refine WC.sub (fr' := [(4, _)]) ?_ ⟨rfl, trivial⟩
      refine WC.ret ?_
      refine WE.endD0 (.inl rfl) (rs1 Try.results40 (rv_cellS [_, _, _, _] agg53 ty53 rfl (.head _) (List.mem_singleton.2 rfl) rfl rfl)) (dr_lose hb0_0 dr_refl) ?_
      -- end 4
      first | (exfalso; omega) | exact tm_eq (by omega) (by omega)

/-- (given.example/pub-tinwright/pub/smithy/auth/bearer.Token).Expired -/
theorem expired (v : List UInt8) (c : Bool) (s n t m : Int) : Fn0 Try.prog 41 [.agg #[S v, .bool c, I t, .int .i32 m, S [85, 84, 67], I 0], tmV s n] (.bool (c && (decide (t < s) || (decide (t = s) && decide (m ≤ n))))) := by
  refine Fn0.enter (n := 18) Try.func41 rfl rfl fun w0 => ?_
  refine WC.sub (fr' := [(0, _), (1, _)]) ?_ ⟨rfl, rfl, trivial⟩
  refine WC.seq ?_
  refine WC.region ?_
  refine WL.box rfl rfl rfl fun b0_0 hb0_0 => ?_
  refine WL.box rfl rfl rfl fun b0_1 hb0_1 => ?_
  refine WL.q (oq_assign rfl) rfl rfl rfl ?_
  refine WL.nil ?_
  refine WE.then_normal ?_
  refine WC.sub (fr' := [(2, _), (3, _)]) ?_ ⟨rfl, rfl, trivial⟩
  refine WC.seq ?_
  refine WC.seq ?_
  refine WC.region ?_
  refine WL.q (oq_fieldAddr fld56_1 rfl) rfl rfl rfl ?_
  refine WL.q (oq_load flat4 rfl (.tail _ (.head _)) (List.mem_singleton.2 rfl) rfl) rfl rfl rfl ?_
  refine WL.q (oq_not rfl) rfl rfl rfl ?_
  refine WL.nil ?_
  refine WE.then_normal ?_
  refine WC.sub (fr' := [(2, _), (3, _), (7, _)]) ?_ ⟨rfl, rfl, rfl, trivial⟩
  refine WC.cond rfl (fun q1 => ?_) (fun q1 => ?_)
  ·
    try simp only [Bool.not_eq_eq_eq_not, Bool.not_true, Bool.not_false, decide_eq_true_eq, decide_eq_false_iff_not, Int.not_lt, Int.not_le, ne_eq, Decidable.not_not, ← List.length_eq_zero_iff] at q1
    refine WC.seq ?_
    refine WC.region ?_
    refine WL.q (oq_assign rfl) rfl rfl rfl ?_
    refine WL.nil ?_
    refine WE.then_normal ?_
    refine WC.sub (fr' := [(4, _)]) ?_ ⟨rfl, trivial⟩
    refine WC.ret ?_
    refine WE.then_ret ?_
    refine WE.lose hb0_1 ?_
    refine WE.lose hb0_0 ?_
    refine WE.end0 (.inl rfl) (res1 Try.results41 rfl) ?_
    -- end 0
    first | (simp_all; done) | (simp only [q1, Bool.true_and]; congr 1; rw [Bool.eq_iff_iff]; simp at s3_4 ⊢; omega)
  ·
    try simp only [Bool.not_eq_eq_eq_not, Bool.not_true, Bool.not_false, decide_eq_true_eq, decide_eq_false_iff_not, Int.not_lt, Int.not_le, ne_eq, Decidable.not_not, ← List.length_eq_zero_iff] at q1
    refine WC.skip ?_
    refine WE.then_normal ?_
    refine WC.sub (fr' := [(2, _), (3, _)]) ?_ ⟨rfl, rfl, trivial⟩
    refine WC.seq ?_
    refine WC.region ?_
    refine WL.q (oq_loadS [_, _, _, _] agg53 ty53 rfl (.head _) (List.mem_singleton.2 rfl) rfl rfl) rfl rfl rfl ?_
    refine WL.q (oq_fieldAddr fld56_2 rfl) rfl rfl rfl ?_
    refine WL.q (oq_loadS [_, _, _, _] agg53 ty53 rfl (.tail _ (.head _)) (List.mem_singleton.2 rfl) rfl rfl) rfl rfl rfl ?_
    refine WL.qc (oq_call (equal _ _ _ _) call56 rfl) rfl rfl rfl ?_
    refine WL.q (oq_move rfl) rfl rfl rfl ?_
    refine WL.split 12 rfl (fun s3_4 => ?_) (fun s3_4 => ?_)
    ·
      try simp only [Bool.not_eq_eq_eq_not, Bool.not_true, Bool.not_false, decide_eq_true_eq, decide_eq_false_iff_not, Int.not_lt, Int.not_le, ne_eq, Decidable.not_not, ← List.length_eq_zero_iff] at s3_4
      refine WL.skip rfl rfl rfl ?_
      refine WL.skip rfl rfl rfl ?_
      refine WL.skip rfl rfl rfl ?_
      refine WL.skip rfl rfl rfl ?_
      refine WL.q (oq_pick_t rfl rfl) rfl rfl rfl ?_
      refine WL.q (oq_assign rfl) rfl rfl rfl ?_
      refine WL.nil ?_
      refine WE.then_normal ?_
      refine WC.sub (fr' := [(4, _)]) ?_ ⟨rfl, trivial⟩
      refine WC.ret ?_
      refine WE.lose hb0_1 ?_
      refine WE.lose hb0_0 ?_
      refine WE.end0 (.inl rfl) (res1 Try.results41 rfl) ?_
      -- end 1
      first | (simp_all; done) | (simp only [q1, Bool.true_and]; congr 1; rw [Bool.eq_iff_iff]; simp at s3_4 ⊢; omega)
    ·
      try simp only [Bool.not_eq_eq_eq_not, Bool.not_true, Bool.not_false, decide_eq_true_eq, decide_eq_false_iff_not, Int.not_lt, Int.not_le, ne_eq, Decidable.not_not, ← List.length_eq_zero_iff] at s3_4
      refine WL.q (oq_loadS [_, _, _, _] agg53 ty53 rfl (.head _) (List.mem_singleton.2 rfl) rfl rfl) rfl rfl rfl ?_
      refine WL.q (oq_fieldAddr fld56_2 rfl) rfl rfl rfl ?_
      refine WL.q (oq_loadS [_, _, _, _] agg53 ty53 rfl (.tail _ (.head _)) (List.mem_singleton.2 rfl) rfl rfl) rfl rfl rfl ?_
      refine WL.qc (oq_call (after _ _ _ _) call57 rfl) rfl rfl rfl ?_
      refine WL.q (oq_pick_f rfl rfl) rfl rfl rfl ?_
      refine WL.q (oq_assign rfl) rfl rfl rfl ?_
      refine WL.nil ?_
      refine WE.then_normal ?_
      refine WC.sub (fr' := [(4, _)]) ?_ ⟨rfl, trivial⟩
      refine WC.ret ?_
      refine WE.lose hb0_1 ?_
      refine WE.lose hb0_0 ?_
      refine WE.end0 (.inl rfl) (res1 Try.results41 rfl) ?_
      -- end 2
      first | (simp_all; done) | (simp only [q1, Bool.true_and]; congr 1; rw [Bool.eq_iff_iff]; simp at s3_4 ⊢; omega)

/-- given.example/pub-tinwright/impl.HExpired -/
theorem iexpired (c : Bool) (e n : Int) (h1 : -9223372036854775808 ≤ e) (h2 : e ≤ 9223372036854775807) (h3 : -9223372036854775808 ≤ n) (h4 : n ≤ 9223372036854775807) : Fn0 Try.prog 19 [.bool c, I e, I n] (.bool (c && decide (e ≤ n))) := by
  refine Fn0.enter (n := 14) Try.func19 rfl rfl fun w0 => ?_
  refine WC.sub (fr' := [(0, _), (1, _), (2, _)]) ?_ ⟨rfl, rfl, rfl, trivial⟩
  refine WC.seq ?_
  refine WC.region ?_
  refine WL.q (oq_assign rfl) rfl rfl rfl ?_
  refine WL.nil ?_
  refine WE.then_normal ?_
  refine WC.sub (fr' := [(0, _), (1, _), (2, _)]) ?_ ⟨rfl, rfl, rfl, trivial⟩
  refine WC.seq ?_
  refine WC.region ?_
  refine WL.q (oq_move rfl) rfl rfl rfl ?_
  refine WL.q (oq_move rfl) rfl rfl rfl ?_
  refine WL.qc (oq_call (unix _ _ (by omega) (by omega) (by omega) (by omega)) call40 rfl) rfl rfl rfl ?_
  refine WL.q (oq_build #[_, _, _, _, _, _] str56 ty56 rfl rfl) rfl rfl rfl ?_
  refine WL.q (oq_move rfl) rfl rfl rfl ?_
  refine WL.qc (oq_call (unix _ _ (by omega) (by omega) (by omega) (by omega)) call40 rfl) rfl rfl rfl ?_
  refine WL.qc (oq_call (expired _ _ _ _ _ _) call41 rfl) rfl rfl rfl ?_
  refine WL.q (oq_assign rfl) rfl rfl rfl ?_
  refine WL.nil ?_
  refine WE.then_normal ?_
  refine WC.sub (fr' := [(6, _)]) ?_ ⟨rfl, trivial⟩
  refine WC.ret ?_
  refine WE.end0 (.inl rfl) (res1 Try.results19 rfl) ?_
  -- end 0
  congr 2; rw [Bool.eq_iff_iff]; simp; omega

/-- given.example/pub-tinwright/laws.FnHExpires -/
theorem law (c : Bool) (e n : Int) (h1 : -9223372036854775808 ≤ e) (h2 : e ≤ 9223372036854775807) (h3 : -9223372036854775808 ≤ n) (h4 : n ≤ 9223372036854775807) : Fn0 Try.prog 5 [.bool c, I e, I n] (.bool true) := by
  refine Fn0.enter (n := 21) Try.func5 rfl rfl fun w0 => ?_
  refine WC.sub (fr' := [(0, _), (1, _), (2, _)]) ?_ ⟨rfl, rfl, rfl, trivial⟩
  refine WC.seq ?_
  refine WC.region ?_
  refine WL.q (oq_assign rfl) rfl rfl rfl ?_
  refine WL.nil ?_
  refine WE.then_normal ?_
  refine WC.sub (fr' := [(0, _), (1, _), (2, _)]) ?_ ⟨rfl, rfl, rfl, trivial⟩
  refine WC.seq ?_
  refine WC.region ?_
  refine WL.q (oq_move rfl) rfl rfl rfl ?_
  refine WL.q (oq_move rfl) rfl rfl rfl ?_
  refine WL.q (oq_move rfl) rfl rfl rfl ?_
  refine WL.qc (oq_call (iexpired _ _ _ (by omega) (by omega) (by omega) (by omega)) call19 rfl) rfl rfl rfl ?_
  refine WL.q (oq_move rfl) rfl rfl rfl ?_
  refine WL.q (oq_move rfl) rfl rfl rfl ?_
  refine WL.split 12 rfl (fun s1_5 => ?_) (fun s1_5 => ?_)
  ·
    try simp only [Bool.not_eq_eq_eq_not, Bool.not_true, Bool.not_false, decide_eq_true_eq, decide_eq_false_iff_not, Int.not_lt, Int.not_le, ne_eq, Decidable.not_not, ← List.length_eq_zero_iff] at s1_5
    refine WL.q (oq_move rfl) rfl rfl rfl ?_
    refine WL.q (oq_move rfl) rfl rfl rfl ?_
    refine WL.q (oq_geq rfl rfl) rfl rfl rfl ?_
    refine WL.q (oq_pick_t rfl rfl) rfl rfl rfl ?_
    refine WL.q (oq_beql Try.underlying4 rfl rfl) rfl rfl rfl ?_
    refine WL.q (oq_move rfl) rfl rfl rfl ?_
    refine WL.split 18 rfl (fun s1_11 => ?_) (fun s1_11 => ?_)
    ·
      try simp only [Bool.not_eq_eq_eq_not, Bool.not_true, Bool.not_false, decide_eq_true_eq, decide_eq_false_iff_not, Int.not_lt, Int.not_le, ne_eq, Decidable.not_not, ← List.length_eq_zero_iff] at s1_11
      refine WL.qc (oq_call (iexpired _ _ _ (by omega) (by omega) (by omega) (by omega)) call19 rfl) rfl rfl rfl ?_
      refine WL.q (oq_pick_t rfl rfl) rfl rfl rfl ?_
      refine WL.q (oq_assign rfl) rfl rfl rfl ?_
      refine WL.nil ?_
      refine WE.then_normal ?_
      refine WC.sub (fr' := [(6, _)]) ?_ ⟨rfl, trivial⟩
      refine WC.ret ?_
      refine WE.end0 (.inl rfl) (res1 Try.results5 rfl) ?_
      -- end 0
      first | rfl | (exfalso; simp_all)
    ·
      try simp only [Bool.not_eq_eq_eq_not, Bool.not_true, Bool.not_false, decide_eq_true_eq, decide_eq_false_iff_not, Int.not_lt, Int.not_le, ne_eq, Decidable.not_not, ← List.length_eq_zero_iff] at s1_11
      refine WL.skip rfl rfl rfl ?_
      refine WL.q (oq_pick_f rfl rfl) rfl rfl rfl ?_
      refine WL.q (oq_assign rfl) rfl rfl rfl ?_
      refine WL.nil ?_
      refine WE.then_normal ?_
      refine WC.sub (fr' := [(6, _)]) ?_ ⟨rfl, trivial⟩
      refine WC.ret ?_
      refine WE.end0 (.inl rfl) (res1 Try.results5 rfl) ?_
      -- end 1
      first | rfl | (exfalso; simp_all)
  ·
    try simp only [Bool.not_eq_eq_eq_not, Bool.not_true, Bool.not_false, decide_eq_true_eq, decide_eq_false_iff_not, Int.not_lt, Int.not_le, ne_eq, Decidable.not_not, ← List.length_eq_zero_iff] at s1_5
    refine WL.skip rfl rfl rfl ?_
    refine WL.skip rfl rfl rfl ?_
    refine WL.skip rfl rfl rfl ?_
    refine WL.q (oq_pick_f rfl rfl) rfl rfl rfl ?_
    refine WL.q (oq_beql Try.underlying4 rfl rfl) rfl rfl rfl ?_
    refine WL.q (oq_move rfl) rfl rfl rfl ?_
    refine WL.split 18 rfl (fun s1_11 => ?_) (fun s1_11 => ?_)
    ·
      try simp only [Bool.not_eq_eq_eq_not, Bool.not_true, Bool.not_false, decide_eq_true_eq, decide_eq_false_iff_not, Int.not_lt, Int.not_le, ne_eq, Decidable.not_not, ← List.length_eq_zero_iff] at s1_11
      refine WL.qc (oq_call (iexpired _ _ _ (by omega) (by omega) (by omega) (by omega)) call19 rfl) rfl rfl rfl ?_
      refine WL.q (oq_pick_t rfl rfl) rfl rfl rfl ?_
      refine WL.q (oq_assign rfl) rfl rfl rfl ?_
      refine WL.nil ?_
      refine WE.then_normal ?_
      refine WC.sub (fr' := [(6, _)]) ?_ ⟨rfl, trivial⟩
      refine WC.ret ?_
      refine WE.end0 (.inl rfl) (res1 Try.results5 rfl) ?_
      -- end 2
      first | rfl | (exfalso; simp_all)
    ·
      try simp only [Bool.not_eq_eq_eq_not, Bool.not_true, Bool.not_false, decide_eq_true_eq, decide_eq_false_iff_not, Int.not_lt, Int.not_le, ne_eq, Decidable.not_not, ← List.length_eq_zero_iff] at s1_11
      refine WL.skip rfl rfl rfl ?_
      refine WL.q (oq_pick_f rfl rfl) rfl rfl rfl ?_
      refine WL.q (oq_assign rfl) rfl rfl rfl ?_
      refine WL.nil ?_
      refine WE.then_normal ?_
      refine WC.sub (fr' := [(6, _)]) ?_ ⟨rfl, trivial⟩
      refine WC.ret ?_
      refine WE.end0 (.inl rfl) (res1 Try.results5 rfl) ?_
      -- end 3
      first | rfl | (exfalso; simp_all)

end T0
end Go.Proofs.Ythhankjineidiaa
