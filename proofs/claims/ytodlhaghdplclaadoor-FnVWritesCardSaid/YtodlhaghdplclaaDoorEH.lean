/- Moments. -/
import Derived.Test.YtodlhaghdplclaaDoorEG
namespace Go.Proofs.YtodlhaghdplclaaDoor
open Go Go.RowKit V EA EB EC ED EE EF EG
set_option linter.unusedSimpArgs false
set_option linter.unusedVariables false
set_option maxRecDepth 10000
namespace EH
theorem call35 : Callable Tryd.prog 35 := ⟨_, Tryd.func35, rfl, by kernel_rfl⟩
theorem call73 : Callable Tryd.prog 73 := ⟨_, Tryd.func73, rfl, by kernel_rfl⟩
theorem call99 : Callable Tryd.prog 99 := ⟨_, Tryd.func99, rfl, by kernel_rfl⟩
theorem call100 : Callable Tryd.prog 100 := ⟨_, Tryd.func100, rfl, by kernel_rfl⟩
theorem call101 : Callable Tryd.prog 101 := ⟨_, Tryd.func101, rfl, by kernel_rfl⟩
theorem call102 : Callable Tryd.prog 102 := ⟨_, Tryd.func102, rfl, by kernel_rfl⟩
theorem call103 : Callable Tryd.prog 103 := ⟨_, Tryd.func103, rfl, by kernel_rfl⟩
theorem call104 : Callable Tryd.prog 104 := ⟨_, Tryd.func104, rfl, by kernel_rfl⟩
theorem flat2 : Flat Tryd.prog 2 := ⟨_, Tryd.underlying2, by simp⟩
theorem flat21 : Flat Tryd.prog 21 := ⟨_, Tryd.underlying21, by simp⟩
theorem ty2 : Ty Tryd.prog 2 (.int .i64 0) 1 8 := ty_of (by kernel_rfl)
theorem ty21 : Ty Tryd.prog 21 (.int .i32 0) 1 4 := ty_of (by kernel_rfl)
theorem ty111 : Ty Tryd.prog 111 (.agg #[(.int .i64 0), (.int .i32 0), (S []), (.int .i64 0)]) 4 40 := ty_of (by kernel_rfl)
theorem ty112 : Ty Tryd.prog 112 (.agg #[(.int .i64 0), (.int .i32 0), (S []), (.int .i64 0)]) 4 40 := ty_of (by kernel_rfl)
theorem ty155 : Ty Tryd.prog 155 (.agg #[(.int .u8 0), (.int .u16 0), (.slice none 0 0)]) 3 32 := ty_of (by kernel_rfl)
theorem conc2 : Conc Tryd.prog 2 := ⟨_, Tryd.underlying2, by simp⟩
theorem agg111 : Agg Tryd.prog 111 := agg_of Tryd.underlying111
theorem agg112 : Agg Tryd.prog 112 := agg_of Tryd.underlying112
theorem agg155 : Agg Tryd.prog 155 := agg_of Tryd.underlying155
theorem str112 : Str Tryd.prog 112 #[(0, 1), (1, 1), (2, 1), (3, 1)] := ⟨_, Tryd.underlying112, fun w => by kernel_rfl⟩
theorem str155 : Str Tryd.prog 155 #[(0, 1), (1, 1), (2, 1)] := ⟨_, Tryd.underlying155, fun w => by kernel_rfl⟩
theorem fld112_0 : Fld Tryd.prog 112 0 0 2 := fld_of Tryd.underlying112 rfl rfl rfl ty2 (by decide)
theorem fld112_1 : Fld Tryd.prog 112 1 1 21 := fld_of Tryd.underlying112 rfl rfl rfl ty21 (by decide)

abbrev tmV (s n : Int) : Value := .agg #[I s, .int .i32 n, S [85, 84, 67], I 0]
theorem tm_eq {s s' n n' : Int} (h : s = s') (h2 : n = n') : tmV s n = tmV s' n' := by rw [h, h2]
/-- the moment of a number of milliseconds -/
abbrev msV (ms : Int) : Value := tmV (ms / 1000 + 62135596800) (ms % 1000 * 1000000)
theorem tmod_b (x m : Int) (h : 0 < m) : x.tmod m = x - m * x.tdiv m := by rw [Int.tmod_def]
/-- (given.example/pub-tinwright/pub/ztime.Time).sec -/
theorem sec (s n : Int) : Fn0 Tryd.prog 104 [tmV s n] (I s) := by
  refine Fn0.enter (n := 5) Tryd.func104 rfl rfl fun w0 => ?_
  refine WC.sub (fr' := [(0, _)]) ?_ ⟨rfl, trivial⟩
  refine WC.seq (WC.region ?_)
  refine WL.box rfl rfl rfl fun b0_0 hb0_0 => ?_
  refine WL.q (oq_assign rfl) rfl rfl rfl ?_
  refine WL.nil (WE.then_normal (WC.sub (fr' := [(1, _)]) ?_ ⟨rfl, trivial⟩))
  refine WC.seq (WC.region ?_)
  refine WL.q (oq_fieldAddr fld112_0 rfl) rfl rfl rfl ?_
  refine WL.q (oq_load flat2 rfl (.head _) (List.mem_singleton.2 rfl) rfl) rfl rfl rfl ?_
  refine WL.q (oq_assign rfl) rfl rfl rfl ?_
  refine WL.nil (WE.then_normal (WC.sub (fr' := [(2, _)]) ?_ ⟨rfl, trivial⟩))
  refine WC.ret ?_
  refine WE.lose hb0_0 ?_
  refine WE.end0 (.inl rfl) (res1 Tryd.results104 rfl) ?_
  -- end 0
  rfl

/-- (given.example/pub-tinwright/pub/ztime.Time).nsec -/
theorem nsec (s n : Int) : Fn0 Tryd.prog 103 [tmV s n] (.int .i32 n) := by
  refine Fn0.enter (n := 5) Tryd.func103 rfl rfl fun w0 => ?_
  refine WC.sub (fr' := [(0, _)]) ?_ ⟨rfl, trivial⟩
  refine WC.seq (WC.region ?_)
  refine WL.box rfl rfl rfl fun b0_0 hb0_0 => ?_
  refine WL.q (oq_assign rfl) rfl rfl rfl ?_
  refine WL.nil (WE.then_normal (WC.sub (fr' := [(1, _)]) ?_ ⟨rfl, trivial⟩))
  refine WC.seq (WC.region ?_)
  refine WL.q (oq_fieldAddr fld112_1 rfl) rfl rfl rfl ?_
  refine WL.q (oq_load flat21 rfl (.head _) (List.mem_singleton.2 rfl) rfl) rfl rfl rfl ?_
  refine WL.q (oq_assign rfl) rfl rfl rfl ?_
  refine WL.nil (WE.then_normal (WC.sub (fr' := [(2, _)]) ?_ ⟨rfl, trivial⟩))
  refine WC.ret ?_
  refine WE.lose hb0_0 ?_
  refine WE.end0 (.inl rfl) (res1 Tryd.results103 rfl) ?_
  -- end 0
  rfl

/-- given.example/pub-tinwright/pub/ztime.Unix -/
theorem unix (s n : Int) (h1 : -1000000000000 ≤ s) (h2 : s ≤ 1000000000000) (h3 : -9223372036854775808 ≤ n) (h4 : n ≤ 9223372036854775807) : Fn0 Tryd.prog 35 [I s, I n] (tmV (s + n / 1000000000 + 62135596800) (n % 1000000000)) := by
  refine Fn0.enter (n := 32) Tryd.func35 rfl rfl fun w0 => ?_
  refine WC.sub (fr' := [(0, _), (1, _)]) ?_ ⟨rfl, rfl, trivial⟩
  refine WC.seq (WC.region ?_)
  refine WL.alloc ty112 rfl rfl fun b0_0 hb0_0 => ?_
  refine WL.nil (WE.then_normal (WC.sub (fr' := [(0, _), (1, _), (4, _)]) ?_ ⟨rfl, rfl, rfl, trivial⟩))
  refine WC.seq (WC.seq (WC.region ?_))
  refine WL.q (oq_move rfl) rfl rfl rfl ?_
  refine WL.q (oq_lss rfl rfl) rfl rfl rfl ?_
  refine WL.q (oq_move rfl) rfl rfl rfl ?_
  refine WL.split 8 rfl (fun s1_2 => ?_) (fun s1_2 => ?_)
  ·
    try simp only [Z1, Z2, Z3, Z4, Z5, Z6, Z7, Z8, Z9, Z0] at s1_2
    refine WL.skip rfl rfl rfl ?_
    refine WL.skip rfl rfl rfl ?_
    refine WL.q (oq_pick_t rfl rfl) rfl rfl rfl ?_
    refine WL.nil (WE.then_normal (WC.sub (fr' := [(0, _), (1, _), (4, _), (11, _)]) ?_ ⟨rfl, rfl, rfl, rfl, trivial⟩))
    refine WC.cond_t rfl ?_
    refine WC.seq (WC.region ?_)
    refine WL.q (oq_move rfl) rfl rfl rfl ?_
    refine WL.q (oq_tquo rfl rfl (by omega) (by rw [i64_lo, i64_hi]; omega)) rfl rfl rfl ?_
    refine WL.q (oq_assign rfl) rfl rfl rfl ?_
    refine WL.nil (WE.then_normal (WC.sub (fr' := [(0, _), (1, _), (4, _), (5, _)]) ?_ ⟨rfl, rfl, rfl, rfl, trivial⟩))
    refine WC.seq ?_
    have hk := tdiv_b n 1000000000 (by decide)
    generalize n.tdiv 1000000000 = k at *
    refine WC.region ?_
    refine WL.q (oq_move rfl) rfl rfl rfl ?_
    refine WL.q (oq_move rfl) rfl rfl rfl ?_
    refine WL.q (oq_add rfl rfl (by rw [i64_lo, i64_hi]; (first | omega | (simp only [List.length_cons, List.length_nil, List.length_append, List.length_drop, List.length_take]; omega)))) rfl rfl rfl ?_
    refine WL.q (oq_assign rfl) rfl rfl rfl ?_
    refine WL.nil (WE.then_normal (WC.sub (fr' := [(0, _), (1, _), (4, _), (5, _)]) ?_ ⟨rfl, rfl, rfl, rfl, trivial⟩))
    refine WC.seq (WC.region ?_)
    refine WL.q (oq_move rfl) rfl rfl rfl ?_
    refine WL.q (oq_move rfl) rfl rfl rfl ?_
    refine WL.q (oq_mul rfl rfl (by rw [i64_lo, i64_hi]; (first | omega | (simp only [List.length_cons, List.length_nil, List.length_append, List.length_drop, List.length_take]; omega)))) rfl rfl rfl ?_
    refine WL.q (oq_sub rfl rfl (by rw [i64_lo, i64_hi]; (first | omega | (simp only [List.length_cons, List.length_nil, List.length_append, List.length_drop, List.length_take]; omega)))) rfl rfl rfl ?_
    refine WL.q (oq_assign rfl) rfl rfl rfl ?_
    refine WL.nil (WE.then_normal (WC.sub (fr' := [(0, _), (1, _), (4, _)]) ?_ ⟨rfl, rfl, rfl, trivial⟩))
    refine WC.seq (WC.region ?_)
    refine WL.q (oq_move rfl) rfl rfl rfl ?_
    refine WL.q (oq_lss rfl rfl) rfl rfl rfl ?_
    refine WL.nil (WE.then_normal (WC.sub (fr' := [(0, _), (1, _), (4, _), (22, _)]) ?_ ⟨rfl, rfl, rfl, rfl, trivial⟩))
    refine WC.cond rfl (fun q5 => ?_) (fun q5 => ?_)
    ·
      try simp only [Z1, Z2, Z3, Z4, Z5, Z6, Z7, Z8, Z9, Z0] at q5
      refine WC.seq (WC.region ?_)
      refine WL.q (oq_move rfl) rfl rfl rfl ?_
      refine WL.q (oq_add rfl rfl (by rw [i64_lo, i64_hi]; (first | omega | (simp only [List.length_cons, List.length_nil, List.length_append, List.length_drop, List.length_take]; omega)))) rfl rfl rfl ?_
      refine WL.q (oq_assign rfl) rfl rfl rfl ?_
      refine WL.nil (WE.then_normal (WC.sub (fr' := [(0, _), (1, _), (4, _)]) ?_ ⟨rfl, rfl, rfl, trivial⟩))
      refine WC.region ?_
      refine WL.q (oq_move rfl) rfl rfl rfl ?_
      refine WL.q (oq_sub rfl rfl (by rw [i64_lo, i64_hi]; (first | omega | (simp only [List.length_cons, List.length_nil, List.length_append, List.length_drop, List.length_take]; omega)))) rfl rfl rfl ?_
      refine WL.q (oq_assign rfl) rfl rfl rfl ?_
      refine WL.nil (WE.then_normal (WC.sub (fr' := [(0, _), (1, _), (4, _)]) ?_ ⟨rfl, rfl, rfl, trivial⟩))
      refine WC.seq (WC.region ?_)
      refine WL.q (oq_move rfl) rfl rfl rfl ?_
      refine WL.q (oq_add rfl rfl (by rw [i64_lo, i64_hi]; (first | omega | (simp only [List.length_cons, List.length_nil, List.length_append, List.length_drop, List.length_take]; omega)))) rfl rfl rfl ?_
      refine WL.q (oq_move rfl) rfl rfl rfl ?_
      refine WL.q (oq_conv Tryd.underlying2 Tryd.underlying21 rfl (by rw [i32_lo, i32_hi]; (first | omega | (simp only [List.length_cons, List.length_nil, List.length_append, List.length_drop, List.length_take]; omega)))) rfl rfl rfl ?_
      refine WL.q (oq_build #[_, _, _, _] str112 ty112 rfl rfl) rfl rfl rfl ?_
      refine WL.storeS #[_, _, _, _] ty112 rfl rfl rfl rfl (Nat.le_of_ble_eq_true rfl) rfl rfl ?_
      refine WL.nil (WE.then_normal (WC.sub (fr' := [(4, _)]) ?_ ⟨rfl, trivial⟩))
      refine WC.ret ?_
      refine WE.endD0 (.inl rfl) (rs1 Tryd.results35 (rv_cellS [_, _, _, _] agg112 ty112 rfl (.head _) (List.mem_singleton.2 rfl) rfl rfl)) (dr_lose hb0_0 dr_refl) ?_
      -- end 0
      first | (exfalso; omega) | exact tm_eq (by omega) (by omega)
    ·
      try simp only [Z1, Z2, Z3, Z4, Z5, Z6, Z7, Z8, Z9, Z0] at q5
      refine WC.skip (WE.then_normal (WC.sub (fr' := [(0, _), (1, _), (4, _)]) ?_ ⟨rfl, rfl, rfl, trivial⟩))
      refine WC.seq (WC.region ?_)
      refine WL.q (oq_move rfl) rfl rfl rfl ?_
      refine WL.q (oq_add rfl rfl (by rw [i64_lo, i64_hi]; (first | omega | (simp only [List.length_cons, List.length_nil, List.length_append, List.length_drop, List.length_take]; omega)))) rfl rfl rfl ?_
      refine WL.q (oq_move rfl) rfl rfl rfl ?_
      refine WL.q (oq_conv Tryd.underlying2 Tryd.underlying21 rfl (by rw [i32_lo, i32_hi]; (first | omega | (simp only [List.length_cons, List.length_nil, List.length_append, List.length_drop, List.length_take]; omega)))) rfl rfl rfl ?_
      refine WL.q (oq_build #[_, _, _, _] str112 ty112 rfl rfl) rfl rfl rfl ?_
      refine WL.storeS #[_, _, _, _] ty112 rfl rfl rfl rfl (Nat.le_of_ble_eq_true rfl) rfl rfl ?_
      refine WL.nil (WE.then_normal (WC.sub (fr' := [(4, _)]) ?_ ⟨rfl, trivial⟩))
      refine WC.ret ?_
      refine WE.endD0 (.inl rfl) (rs1 Tryd.results35 (rv_cellS [_, _, _, _] agg112 ty112 rfl (.head _) (List.mem_singleton.2 rfl) rfl rfl)) (dr_lose hb0_0 dr_refl) ?_
      -- end 1
      first | (exfalso; omega) | exact tm_eq (by omega) (by omega)
  ·
    try simp only [Z1, Z2, Z3, Z4, Z5, Z6, Z7, Z8, Z9, Z0] at s1_2
    refine WL.q (oq_move rfl) rfl rfl rfl ?_
    refine WL.q (oq_geq rfl rfl) rfl rfl rfl ?_
    refine WL.q (oq_pick_f rfl rfl) rfl rfl rfl ?_
    refine WL.nil (WE.then_normal (WC.sub (fr' := [(0, _), (1, _), (4, _), (11, _)]) ?_ ⟨rfl, rfl, rfl, rfl, trivial⟩))
    refine WC.cond rfl (fun q1 => ?_) (fun q1 => ?_)
    ·
      try simp only [Z1, Z2, Z3, Z4, Z5, Z6, Z7, Z8, Z9, Z0] at q1
      refine WC.seq (WC.region ?_)
      refine WL.q (oq_move rfl) rfl rfl rfl ?_
      refine WL.q (oq_tquo rfl rfl (by omega) (by rw [i64_lo, i64_hi]; omega)) rfl rfl rfl ?_
      refine WL.q (oq_assign rfl) rfl rfl rfl ?_
      refine WL.nil (WE.then_normal (WC.sub (fr' := [(0, _), (1, _), (4, _), (5, _)]) ?_ ⟨rfl, rfl, rfl, rfl, trivial⟩))
      refine WC.seq ?_
      have hk := tdiv_b n 1000000000 (by decide)
      generalize n.tdiv 1000000000 = k at *
      refine WC.region ?_
      refine WL.q (oq_move rfl) rfl rfl rfl ?_
      refine WL.q (oq_move rfl) rfl rfl rfl ?_
      refine WL.q (oq_add rfl rfl (by rw [i64_lo, i64_hi]; (first | omega | (simp only [List.length_cons, List.length_nil, List.length_append, List.length_drop, List.length_take]; omega)))) rfl rfl rfl ?_
      refine WL.q (oq_assign rfl) rfl rfl rfl ?_
      refine WL.nil (WE.then_normal (WC.sub (fr' := [(0, _), (1, _), (4, _), (5, _)]) ?_ ⟨rfl, rfl, rfl, rfl, trivial⟩))
      refine WC.seq (WC.region ?_)
      refine WL.q (oq_move rfl) rfl rfl rfl ?_
      refine WL.q (oq_move rfl) rfl rfl rfl ?_
      refine WL.q (oq_mul rfl rfl (by rw [i64_lo, i64_hi]; (first | omega | (simp only [List.length_cons, List.length_nil, List.length_append, List.length_drop, List.length_take]; omega)))) rfl rfl rfl ?_
      refine WL.q (oq_sub rfl rfl (by rw [i64_lo, i64_hi]; (first | omega | (simp only [List.length_cons, List.length_nil, List.length_append, List.length_drop, List.length_take]; omega)))) rfl rfl rfl ?_
      refine WL.q (oq_assign rfl) rfl rfl rfl ?_
      refine WL.nil (WE.then_normal (WC.sub (fr' := [(0, _), (1, _), (4, _)]) ?_ ⟨rfl, rfl, rfl, trivial⟩))
      refine WC.seq (WC.region ?_)
      refine WL.q (oq_move rfl) rfl rfl rfl ?_
      refine WL.q (oq_lss rfl rfl) rfl rfl rfl ?_
      refine WL.nil (WE.then_normal (WC.sub (fr' := [(0, _), (1, _), (4, _), (22, _)]) ?_ ⟨rfl, rfl, rfl, rfl, trivial⟩))
      refine WC.cond rfl (fun q5 => ?_) (fun q5 => ?_)
      ·
        try simp only [Z1, Z2, Z3, Z4, Z5, Z6, Z7, Z8, Z9, Z0] at q5
        refine WC.seq (WC.region ?_)
        refine WL.q (oq_move rfl) rfl rfl rfl ?_
        refine WL.q (oq_add rfl rfl (by rw [i64_lo, i64_hi]; (first | omega | (simp only [List.length_cons, List.length_nil, List.length_append, List.length_drop, List.length_take]; omega)))) rfl rfl rfl ?_
        refine WL.q (oq_assign rfl) rfl rfl rfl ?_
        refine WL.nil (WE.then_normal (WC.sub (fr' := [(0, _), (1, _), (4, _)]) ?_ ⟨rfl, rfl, rfl, trivial⟩))
        refine WC.region ?_
        refine WL.q (oq_move rfl) rfl rfl rfl ?_
        refine WL.q (oq_sub rfl rfl (by rw [i64_lo, i64_hi]; (first | omega | (simp only [List.length_cons, List.length_nil, List.length_append, List.length_drop, List.length_take]; omega)))) rfl rfl rfl ?_
        refine WL.q (oq_assign rfl) rfl rfl rfl ?_
        refine WL.nil (WE.then_normal (WC.sub (fr' := [(0, _), (1, _), (4, _)]) ?_ ⟨rfl, rfl, rfl, trivial⟩))
        refine WC.seq (WC.region ?_)
        refine WL.q (oq_move rfl) rfl rfl rfl ?_
        refine WL.q (oq_add rfl rfl (by rw [i64_lo, i64_hi]; (first | omega | (simp only [List.length_cons, List.length_nil, List.length_append, List.length_drop, List.length_take]; omega)))) rfl rfl rfl ?_
        refine WL.q (oq_move rfl) rfl rfl rfl ?_
        refine WL.q (oq_conv Tryd.underlying2 Tryd.underlying21 rfl (by rw [i32_lo, i32_hi]; (first | omega | (simp only [List.length_cons, List.length_nil, List.length_append, List.length_drop, List.length_take]; omega)))) rfl rfl rfl ?_
        refine WL.q (oq_build #[_, _, _, _] str112 ty112 rfl rfl) rfl rfl rfl ?_
        refine WL.storeS #[_, _, _, _] ty112 rfl rfl rfl rfl (Nat.le_of_ble_eq_true rfl) rfl rfl ?_
        refine WL.nil (WE.then_normal (WC.sub (fr' := [(4, _)]) ?_ ⟨rfl, trivial⟩))
        refine WC.ret ?_
        refine WE.endD0 (.inl rfl) (rs1 Tryd.results35 (rv_cellS [_, _, _, _] agg112 ty112 rfl (.head _) (List.mem_singleton.2 rfl) rfl rfl)) (dr_lose hb0_0 dr_refl) ?_
        -- end 2
        first | (exfalso; omega) | exact tm_eq (by omega) (by omega)
      ·
        try simp only [Z1, Z2, Z3, Z4, Z5, Z6, Z7, Z8, Z9, Z0] at q5
        refine WC.skip (WE.then_normal (WC.sub (fr' := [(0, _), (1, _), (4, _)]) ?_ ⟨rfl, rfl, rfl, trivial⟩))
        refine WC.seq (WC.region ?_)
        refine WL.q (oq_move rfl) rfl rfl rfl ?_
        refine WL.q (oq_add rfl rfl (by rw [i64_lo, i64_hi]; (first | omega | (simp only [List.length_cons, List.length_nil, List.length_append, List.length_drop, List.length_take]; omega)))) rfl rfl rfl ?_
        refine WL.q (oq_move rfl) rfl rfl rfl ?_
        refine WL.q (oq_conv Tryd.underlying2 Tryd.underlying21 rfl (by rw [i32_lo, i32_hi]; (first | omega | (simp only [List.length_cons, List.length_nil, List.length_append, List.length_drop, List.length_take]; omega)))) rfl rfl rfl ?_
        refine WL.q (oq_build #[_, _, _, _] str112 ty112 rfl rfl) rfl rfl rfl ?_
        refine WL.storeS #[_, _, _, _] ty112 rfl rfl rfl rfl (Nat.le_of_ble_eq_true rfl) rfl rfl ?_
        refine WL.nil (WE.then_normal (WC.sub (fr' := [(4, _)]) ?_ ⟨rfl, trivial⟩))
        refine WC.ret ?_
        refine WE.endD0 (.inl rfl) (rs1 Tryd.results35 (rv_cellS [_, _, _, _] agg112 ty112 rfl (.head _) (List.mem_singleton.2 rfl) rfl rfl)) (dr_lose hb0_0 dr_refl) ?_
        -- end 3
        first | (exfalso; omega) | exact tm_eq (by omega) (by omega)
    ·
      try simp only [Z1, Z2, Z3, Z4, Z5, Z6, Z7, Z8, Z9, Z0] at q1
      refine WC.skip (WE.then_normal (WC.sub (fr' := [(0, _), (1, _), (4, _)]) ?_ ⟨rfl, rfl, rfl, trivial⟩))
      refine WC.seq (WC.region ?_)
      refine WL.q (oq_move rfl) rfl rfl rfl ?_
      refine WL.q (oq_add rfl rfl (by rw [i64_lo, i64_hi]; (first | omega | (simp only [List.length_cons, List.length_nil, List.length_append, List.length_drop, List.length_take]; omega)))) rfl rfl rfl ?_
      refine WL.q (oq_move rfl) rfl rfl rfl ?_
      refine WL.q (oq_conv Tryd.underlying2 Tryd.underlying21 rfl (by rw [i32_lo, i32_hi]; (first | omega | (simp only [List.length_cons, List.length_nil, List.length_append, List.length_drop, List.length_take]; omega)))) rfl rfl rfl ?_
      refine WL.q (oq_build #[_, _, _, _] str112 ty112 rfl rfl) rfl rfl rfl ?_
      refine WL.storeS #[_, _, _, _] ty112 rfl rfl rfl rfl (Nat.le_of_ble_eq_true rfl) rfl rfl ?_
      refine WL.nil (WE.then_normal (WC.sub (fr' := [(4, _)]) ?_ ⟨rfl, trivial⟩))
      refine WC.ret ?_
      refine WE.endD0 (.inl rfl) (rs1 Tryd.results35 (rv_cellS [_, _, _, _] agg112 ty112 rfl (.head _) (List.mem_singleton.2 rfl) rfl rfl)) (dr_lose hb0_0 dr_refl) ?_
      -- end 4
      first | (exfalso; omega) | exact tm_eq (by omega) (by omega)

/-- given.example/pub-tinwright/pub/ztime.UnixMilli -/
theorem unixMilli (ms : Int) (h1 : -9200000000000 ≤ ms) (h2 : ms ≤ 9200000000000) : Fn0 Tryd.prog 34 [I ms] (msV ms) := by
  have hk := tdiv_b ms 1000 (by decide)
  have hm := tmod_b ms 1000 (by decide)
  refine Fn0.enter (n := 9) Tryd.func34 rfl rfl fun w0 => ?_
  refine WC.sub (fr' := [(0, _)]) ?_ ⟨rfl, trivial⟩
  refine WC.seq (WC.region ?_)
  refine WL.alloc ty112 rfl rfl fun b0_0 hb0_0 => ?_
  refine WL.nil (WE.then_normal (WC.sub (fr' := [(0, _), (2, _)]) ?_ ⟨rfl, rfl, trivial⟩))
  refine WC.seq (WC.region ?_)
  refine WL.q (oq_move rfl) rfl rfl rfl ?_
  refine WL.q (oq_tquo rfl rfl (by omega) (by rw [i64_lo, i64_hi]; omega)) rfl rfl rfl ?_
  refine WL.q (oq_move rfl) rfl rfl rfl ?_
  refine WL.q (oq_trem rfl rfl (by omega)) rfl rfl rfl ?_
  refine WL.q (oq_mul rfl rfl (by rw [i64_lo, i64_hi]; (first | omega | (simp only [List.length_cons, List.length_nil, List.length_append, List.length_drop, List.length_take]; omega)))) rfl rfl rfl ?_
  refine WL.qc (oq_call (unix (ms.tdiv 1000) (ms.tmod 1000 * 1000000) (by omega) (by omega) (by omega) (by omega)) call35 rfl) rfl rfl rfl ?_
  refine WL.storeS #[_, _, _, _] ty112 rfl rfl rfl rfl (Nat.le_of_ble_eq_true rfl) rfl rfl ?_
  refine WL.nil (WE.then_normal (WC.sub (fr' := [(2, _)]) ?_ ⟨rfl, trivial⟩))
  refine WC.ret ?_
  refine WE.endD0 (.inl rfl) (rs1 Tryd.results34 (rv_cellS [_, _, _, _] agg112 ty112 rfl (.head _) (List.mem_singleton.2 rfl) rfl rfl)) (dr_lose hb0_0 dr_refl) ?_
  -- end 0
  exact tm_eq (by omega) (by omega)

/-- (given.example/pub-tinwright/pub/ztime.Time).unixSec -/
theorem unixSec (s n : Int) (h : 0 ≤ s ∧ s ≤ 1000000000000) : Fn0 Tryd.prog 102 [tmV s n] (I (s + -62135596800)) := by
  refine Fn0.enter (n := 6) Tryd.func102 rfl rfl fun w0 => ?_
  refine WC.sub (fr' := [(0, _)]) ?_ ⟨rfl, trivial⟩
  refine WC.seq (WC.region ?_)
  refine WL.box rfl rfl rfl fun b0_0 hb0_0 => ?_
  refine WL.q (oq_assign rfl) rfl rfl rfl ?_
  refine WL.nil (WE.then_normal (WC.sub (fr' := [(1, _)]) ?_ ⟨rfl, trivial⟩))
  refine WC.seq (WC.region ?_)
  refine WL.q (oq_loadS [_, _, _, _] agg112 ty112 rfl (.head _) (List.mem_singleton.2 rfl) rfl rfl) rfl rfl rfl ?_
  refine WL.qc (oq_call (sec _ _) call104 rfl) rfl rfl rfl ?_
  refine WL.q (oq_add rfl rfl (by rw [i64_lo, i64_hi]; (first | omega | (simp only [List.length_cons, List.length_nil, List.length_append, List.length_drop, List.length_take]; omega)))) rfl rfl rfl ?_
  refine WL.q (oq_assign rfl) rfl rfl rfl ?_
  refine WL.nil (WE.then_normal (WC.sub (fr' := [(2, _)]) ?_ ⟨rfl, trivial⟩))
  refine WC.ret ?_
  refine WE.lose hb0_0 ?_
  refine WE.end0 (.inl rfl) (res1 Tryd.results102 rfl) ?_
  -- end 0
  rfl

/-- (given.example/pub-tinwright/pub/ztime.Time).UnixNano -/
theorem unixNano (ms : Int) (h1 : -9200000000000 ≤ ms) (h2 : ms ≤ 9200000000000) : Fn0 Tryd.prog 101 [msV ms] (I (ms * 1000000)) := by
  refine Fn0.enter (n := 10) Tryd.func101 rfl rfl fun w0 => ?_
  refine WC.sub (fr' := [(0, _)]) ?_ ⟨rfl, trivial⟩
  refine WC.seq (WC.region ?_)
  refine WL.box rfl rfl rfl fun b0_0 hb0_0 => ?_
  refine WL.q (oq_assign rfl) rfl rfl rfl ?_
  refine WL.nil (WE.then_normal (WC.sub (fr' := [(1, _)]) ?_ ⟨rfl, trivial⟩))
  refine WC.seq (WC.quiet (by kernel_rfl) (by kernel_rfl) ?_)
  refine WQ.q (oq_loadS [_, _, _, _] agg112 ty112 rfl (.head _) (List.mem_singleton.2 rfl) rfl rfl) rfl rfl rfl ?_
  refine WQ.qc (oq_call (unixSec _ _ (by omega)) call102 rfl) rfl rfl rfl ?_
  refine WQ.q (oq_mul rfl rfl (by rw [i64_lo, i64_hi]; (first | omega | (simp only [List.length_cons, List.length_nil, List.length_append, List.length_drop, List.length_take]; omega)))) rfl rfl rfl ?_
  refine WQ.q (oq_loadS [_, _, _, _] agg112 ty112 rfl (.head _) (List.mem_singleton.2 rfl) rfl rfl) rfl rfl rfl ?_
  refine WQ.qc (oq_call (nsec _ _) call103 rfl) rfl rfl rfl ?_
  refine WQ.q (oq_conv Tryd.underlying21 Tryd.underlying2 rfl (by rw [i64_lo, i64_hi]; (first | omega | (simp only [List.length_cons, List.length_nil, List.length_append, List.length_drop, List.length_take]; omega)))) rfl rfl rfl ?_
  refine WQ.q (oq_add rfl rfl (by rw [i64_lo, i64_hi]; (first | omega | (simp only [List.length_cons, List.length_nil, List.length_append, List.length_drop, List.length_take]; omega)))) rfl rfl rfl ?_
  refine WQ.q (oq_assign rfl) rfl rfl rfl ?_
  refine WQ.nil (WE.then_normal (WC.sub (fr' := [(2, _)]) ?_ ⟨rfl, trivial⟩))
  refine WC.ret ?_
  refine WE.lose hb0_0 ?_
  refine WE.end0 (.inl rfl) (res1 Tryd.results101 rfl) ?_
  -- end 0
  congr 1; omega

/-- (given.example/pub-tinwright/pub/smithy/eventstream.TimestampValue).epochMilli -/
theorem epochMilli (ms : Int) (h1 : -9200000000000 ≤ ms) (h2 : ms ≤ 9200000000000) : Fn0 Tryd.prog 100 [msV ms] (I ms) := by
  refine Fn0.enter (n := 10) Tryd.func100 rfl rfl fun w0 => ?_
  refine WC.sub (fr' := [(0, _)]) ?_ ⟨rfl, trivial⟩
  refine WC.seq (WC.region ?_)
  refine WL.box rfl rfl rfl fun b0_0 hb0_0 => ?_
  refine WL.q (oq_assign rfl) rfl rfl rfl ?_
  refine WL.nil (WE.then_normal (WC.sub (fr' := [(1, _)]) ?_ ⟨rfl, trivial⟩))
  refine WC.seq (WC.region ?_)
  refine WL.q (oq_loadS [_, _, _, _] agg111 ty111 rfl (.head _) (List.mem_singleton.2 rfl) rfl rfl) rfl rfl rfl ?_
  refine WL.qc (oq_call (unixNano ms h1 h2) call101 rfl) rfl rfl rfl ?_
  refine WL.q (oq_assign rfl) rfl rfl rfl ?_
  refine WL.nil (WE.then_normal (WC.sub (fr' := [(3, _)]) ?_ ⟨rfl, trivial⟩))
  refine WC.seq (WC.region ?_)
  refine WL.q (oq_move rfl) rfl rfl rfl ?_
  refine WL.q (oq_tquo rfl rfl (by omega) (by rw [i64_lo, i64_hi]; omega)) rfl rfl rfl ?_
  refine WL.q (oq_assign rfl) rfl rfl rfl ?_
  refine WL.nil (WE.then_normal (WC.sub (fr' := [(4, _)]) ?_ ⟨rfl, trivial⟩))
  refine WC.seq (WC.region ?_)
  refine WL.q (oq_move rfl) rfl rfl rfl ?_
  refine WL.q (oq_assign rfl) rfl rfl rfl ?_
  refine WL.nil (WE.then_normal (WC.sub (fr' := [(2, _)]) ?_ ⟨rfl, trivial⟩))
  refine WC.ret ?_
  refine WE.lose hb0_0 ?_
  refine WE.end0 (.inl rfl) (res1 Tryd.results100 rfl) ?_
  -- end 0
  rw [Int.mul_tdiv_cancel _ (by decide)]

/-- (given.example/pub-tinwright/pub/smithy/eventstream.TimestampValue).valueType -/
theorem vtTimestampValue (s n : Int) : Fn0 Tryd.prog 99 [tmV s n] (.int .u8 8) := by
  refine Fn0.enter (n := 3) Tryd.func99 rfl rfl fun w0 => ?_
  refine WC.sub (fr' := [(0, _)]) ?_ ⟨rfl, trivial⟩
  refine WC.seq (WC.region ?_)
  refine WL.box rfl rfl rfl fun b0_0 hb0_0 => ?_
  refine WL.q (oq_assign rfl) rfl rfl rfl ?_
  refine WL.nil (WE.then_normal (WC.sub (fr' := []) ?_ trivial))
  refine WC.seq (WC.region ?_)
  refine WL.q (oq_assign rfl) rfl rfl rfl ?_
  refine WL.nil (WE.then_normal (WC.sub (fr' := [(2, _)]) ?_ ⟨rfl, trivial⟩))
  refine WC.ret ?_
  refine WE.lose hb0_0 ?_
  refine WE.end0 (.inl rfl) (res1 Tryd.results99 rfl) ?_
  -- end 0
  rfl

/-- (given.example/pub-tinwright/pub/smithy/eventstream.TimestampValue).encode -/
theorem encTimestampValue (base : Nat) (k : TypeId) (r : Value) (f : FuncId) (Wt : List UInt8 → Hp → Prop) (hW : Wr base k r f Wt) (acc0 : List UInt8) (G : Hp) (hG : Wt acc0 G) (ms : Int) (h1 : -9200000000000 ≤ ms) (h2 : ms ≤ 9200000000000) (hal : acc0.length ≤ 290000) : FnW Tryd.prog 98 [msV ms, .iface k r] base [G] (Then Wt (acc0 ++ (8 :: be 8 ms)) []) := by
  refine FnW.enter (n := 17) Tryd.func98 rfl rfl fun w0 R0 hbase => ?_
  subst hbase
  show WC _ _ _ _ _ _ _ ([G, R0])
  refine WC.sub (fr' := [(0, _), (1, _)]) ?_ ⟨rfl, rfl, trivial⟩
  refine WC.seq (WC.region ?_)
  refine WL.box rfl rfl rfl fun b0_0 hb0_0 => ?_
  refine WL.q (oq_assign rfl) rfl rfl rfl ?_
  refine WL.nil (WE.then_normal (WC.sub (fr' := [(1, _), (2, _)]) ?_ ⟨rfl, rfl, trivial⟩))
  refine WC.seq (WC.region ?_)
  refine WL.q (oq_loadS [_, _, _, _] agg111 ty111 rfl (.head _) (List.mem_singleton.2 rfl) rfl rfl) rfl rfl rfl ?_
  refine WL.qc (oq_call (vtTimestampValue _ _) call99 rfl) rfl rfl rfl ?_
  refine WL.q (oq_build #[_, _, _] str155 ty155 rfl rfl) rfl rfl rfl ?_
  refine WL.alloc ty155 rfl rfl fun b1_3 hb1_3 => ?_
  refine WL.storeS #[_, _, _] ty155 rfl rfl rfl rfl (Nat.le_of_ble_eq_true rfl) rfl rfl ?_
  refine WL.nil (WE.then_normal (WC.sub (fr' := [(1, _), (2, _), (5, _)]) ?_ ⟨rfl, rfl, rfl, trivial⟩))
  refine WC.seq (WC.region ?_)
  refine WL.q (oq_loadS [_, _, _, _] agg111 ty111 rfl (.tail _ (.head _)) (List.mem_singleton.2 rfl) rfl rfl) rfl rfl rfl ?_
  refine WL.qc (oq_call (epochMilli ms h1 h2) call100 rfl) rfl rfl rfl ?_
  refine WL.q (oq_assign rfl) rfl rfl rfl ?_
  refine WL.nil (WE.then_normal (WC.sub (fr' := [(1, _), (5, _), (6, _)]) ?_ ⟨rfl, rfl, rfl, trivial⟩))
  refine WC.seq (WC.region ?_)
  refine WL.q (oq_loadS [_, _, _] agg155 ty155 rfl (.head _) (List.mem_singleton.2 rfl) rfl rfl) rfl rfl rfl ?_
  refine WL.q (oq_move rfl) rfl rfl rfl ?_
  refine WL.q (oq_move rfl) rfl rfl rfl ?_
  refine WL.q (oq_makeI conc2 rfl) rfl rfl rfl ?_
  refine WL.f2 ?_
  refine WL.callW1 (encScalar _ k r f Wt hW acc0 G hG 8 (.int .u16 0) (.slice none 0 0) ⟨2, .i64, 8, ms⟩ (by simp [Num.ok, Num.kinds]) hal) call73 rfl rfl rfl fun v3_4 Hs3_4 hR3_4 => ?_
  obtain ⟨G2, rfl, rfl, hG2⟩ := hR3_4
  refine WL.to1 ?_
  refine WL.q (oq_assign rfl) rfl rfl rfl ?_
  refine WL.nil (WE.then_normal (WC.sub (fr' := [(4, _)]) ?_ ⟨rfl, trivial⟩))
  refine WC.ret ?_
  refine WE.f1 ?_
  refine WE.lose hb1_3 ?_
  refine WE.f1 ?_
  refine WE.lose hb0_0 ?_
  refine WE.endW1 (.inl rfl) (res1 Tryd.results98 rfl) ?_
  -- end 0
  exact ⟨_, rfl, rfl, hG2⟩

end EH
end Go.Proofs.YtodlhaghdplclaaDoor
